import Derived.Test.YtmkhkkfliecfdaaMerge
import Derived.Laws.CopyOwn
import Derived.Laws.OwnMore
import Derived.Deep.RegionLaw
namespace Go.Proofs.Ytmkhkkfliecfdaa.Given
open Go.RowKit
set_option linter.unusedVariables false
set_option linter.unusedSimpArgs false

variable {P : Program}
theorem run_copy_two (w : World) (dT sT ty elem : TypeId) (g o dLen dCap : Nat) (a : Addr) (sLen sCap : Nat) (cur : Array Value) (t : TypeId) (cs : List Value)
    (hu : P.underlying dT = some (.slice elem)) (hs : (P.info? elem).map (·.size) = some 2)
    (hg : w.heap[g]? = some (.cells cur t (0, 0))) (hn : cs.length = Nat.min sLen dLen * 2)
    (hsrc : ∀ j v, cs[j]? = some v → w.cell? (a.add j) = some v) (hfit : o + cs.length ≤ cur.size) (h1 : ∀ v ∈ cs, v.oneCell' = true) :
    (Builtin.copy_ #[dT, sT] ty #[.slice (some ⟨g, o, none⟩) dLen dCap, .slice (some a) sLen sCap]).run P w =
      .ok (goInt (Nat.min sLen dLen)) (w.setRow g (cur.toList.take o ++ cs ++ cur.toList.drop (o + cs.length)).toArray) := by
  have hl := run_loadCells_list (P := P) w a cs hsrc
  have hst := run_storeCells_at P g o t cs 0 cur w hg (by simpa using hfit) h1
  cases hq : P.info? elem with
  | none => simp [hq] at hs
  | some i =>
    have hi : i.size = 2 := by simpa [hq] using hs
    simp [Builtin.copy_, run_underlying hu, Builtin.lenOf, Builtin.firstCells, sizeOf, typeInfo, hq, hi, ← hn, hl, hst]
theorem wpList_copy_two {w : World} {ops : Array Oper} {rest : List Oper} {o : Oper} {a : Act} {Q : Exit → Act → World → Prop} (hgd : o.guard = none) (d s : Operand) (dT sT : TypeId)
    (ho : o.op = .call { callee := .builtin .copy, args := #[d, s], argTypes := #[dT, sT] }) (elem : TypeId) (hu : P.underlying dT = some (.slice elem)) (hsz : (P.info? elem).map (·.size) = some 2)
    (g off dLen dCap : Nat) (ad : Addr) (sLen sCap : Nat) (hd : a.eval d = .slice (some ⟨g, off, none⟩) dLen dCap) (hs : a.eval s = .slice (some ad) sLen sCap)
    (cur : Array Value) (t : TypeId) (hg : w.heap[g]? = some (.cells cur t (0, 0))) (cs : List Value) (hn : cs.length = Nat.min sLen dLen * 2)
    (hsrc : ∀ j v, cs[j]? = some v → w.cell? (ad.add j) = some v) (hfit : off + cs.length ≤ cur.size) (h1 : ∀ v ∈ cs, v.oneCell' = true)
    (h : wpList P ops Q rest (a.put o.dst (goInt (Nat.min sLen dLen))) (w.setRow g (cur.toList.take off ++ cs ++ cur.toList.drop (off + cs.length)).toArray)) : wpList P ops Q (o :: rest) a w := by
  refine wpList_plain hgd fun K hK => ?_
  have hrun := run_copy_two (P := P) w dT sT o.type elem g off dLen dCap ad sLen sCap cur t cs hu hsz hg hn hsrc hfit h1
  unfold Oper.wp
  simp [execOp, ho, resolve, invoke, builtin, hd, hs, hrun, Result.andThen]
  exact hK _ _ (by rw [List.append_assoc] at h; exact h)

/-- A range's two cells. -/
def flat (L : List (Int × Int)) : List Value := L.flatMap fun r => [.int .i64 r.1, .int .i64 r.2]
theorem flat_nil : flat [] = [] := rfl
theorem flat_cons (r : Int × Int) (L : List (Int × Int)) : flat (r :: L) = .int .i64 r.1 :: .int .i64 r.2 :: flat L := rfl
theorem flat_append (L M : List (Int × Int)) : flat (L ++ M) = flat L ++ flat M := by simp [flat]
theorem flat_length : ∀ (L : List (Int × Int)), (flat L).length = L.length * 2
  | [] => rfl
  | r :: L => by rw [flat_cons]; simp only [List.length_cons, flat_length L]; omega
theorem flat_fst : ∀ (L : List (Int × Int)) (i : Nat) (h : i < L.length), (flat L)[i * 2]? = some (.int .i64 L[i].1)
  | [], i, h => by simp at h
  | r :: L, 0, h => by simp [flat_cons]
  | r :: L, i + 1, h => by
    have := flat_fst L i (by simpa using h)
    rw [flat_cons, show (i + 1) * 2 = i * 2 + 1 + 1 by omega]
    simpa using this
theorem flat_snd : ∀ (L : List (Int × Int)) (i : Nat) (h : i < L.length), (flat L)[i * 2 + 1]? = some (.int .i64 L[i].2)
  | [], i, h => by simp at h
  | r :: L, 0, h => by simp [flat_cons]
  | r :: L, i + 1, h => by
    have := flat_snd L i (by simpa using h)
    rw [flat_cons, show (i + 1) * 2 + 1 = i * 2 + 1 + 1 + 1 by omega]
    simpa using this
theorem flat_set : ∀ (L : List (Int × Int)) (i : Nat) (r : Int × Int), flat (L.set i r) = ((flat L).set (i * 2 + 1) (.int .i64 r.2)).set (i * 2) (.int .i64 r.1)
  | [], i, r => by simp [flat]
  | x :: L, 0, r => by simp [flat_cons]
  | x :: L, i + 1, r => by
    rw [List.set_cons_succ, flat_cons, flat_cons, flat_set L i r, show (i + 1) * 2 + 1 = i * 2 + 1 + 1 + 1 by omega, show (i + 1) * 2 = i * 2 + 1 + 1 by omega]
    simp
theorem flat_take : ∀ (L : List (Int × Int)) (i : Nat), flat (L.take i) = (flat L).take (i * 2)
  | [], i => by simp [flat]
  | x :: L, 0 => by simp [flat]
  | x :: L, i + 1 => by rw [List.take_succ_cons, flat_cons, flat_cons, flat_take L i, show (i + 1) * 2 = i * 2 + 1 + 1 by omega]; simp
theorem flat_drop : ∀ (L : List (Int × Int)) (i : Nat), flat (L.drop i) = (flat L).drop (i * 2)
  | [], i => by simp [flat]
  | x :: L, 0 => by simp
  | x :: L, i + 1 => by rw [List.drop_succ_cons, flat_cons, flat_drop L i, show (i + 1) * 2 = i * 2 + 1 + 1 by omega]; simp
theorem flat_one (L : List (Int × Int)) : ∀ v ∈ flat L, v.oneCell' = true := by
  intro v hv
  obtain ⟨r, _, hr⟩ := List.mem_flatMap.1 hv
  simp at hr
  rcases hr with rfl | rfl <;> rfl

def Row (w : World) (B : Nat) (v : Value) (L : List (Int × Int)) : Prop := w.ownsRow B 48 2 v L.length (flat L)
variable {w : World} {B g cap : Nat} {L : List (Int × Int)}
theorem Row.fst (h : Row w B (.slice (some ⟨g, 0, none⟩) L.length cap) L) {i : Nat} (hi : i < L.length) : w.cell? ⟨g, i * 2, none⟩ = some (.int .i64 L[i].1) :=
  (World.ownsRow.cellAt h (i * 2) (by omega)).trans (flat_fst L i hi)
theorem Row.snd (h : Row w B (.slice (some ⟨g, 0, none⟩) L.length cap) L) {i : Nat} (hi : i < L.length) : w.cell? ⟨g, i * 2 + 1, none⟩ = some (.int .i64 L[i].2) :=
  (World.ownsRow.cellAt h (i * 2 + 1) (by omega)).trans (flat_snd L i hi)
theorem Row.frz (h : Row w B (.slice (some ⟨g, 0, none⟩) L.length cap) L) (j : Nat) : w.frozen? ⟨g, j, none⟩ = false := World.ownsRow.frozenAt h j
theorem Row.set (h : Row w B (.slice (some ⟨g, 0, none⟩) L.length cap) L) (i : Nat) (r : Int × Int) :
    Row ((w.setCell ⟨g, i * 2 + 1, none⟩ (.int .i64 r.2)).setCell ⟨g, i * 2, none⟩ (.int .i64 r.1)) B (.slice (some ⟨g, 0, none⟩) (L.set i r).length cap) (L.set i r) := by
  unfold Row
  rw [flat_set, List.length_set]
  exact (World.ownsRow.stored (World.ownsRow.stored h _ _).1 _ _).1
theorem Row.below {w' : World} {v : Value} (h : Row w B v L) (hb : Below w.heap.size w w') : Row w' B v L :=
  World.ownsRow.kept h (row := none) ⟨hb.os, hb.tape, hb.output, hb.size, fun i hi _ => hb.block i hi⟩ (by cases v.ownBlock <;> simp)
theorem Row.lt (h : Row w B (.slice (some ⟨g, 0, none⟩) L.length cap) L) : B ≤ g ∧ g < w.heap.size := by
  rcases h.2 with ⟨h', _⟩ | ⟨g', cap', cur, h', hb, hg, _⟩
  · simp at h'
  · simp only [Value.slice.injEq, Option.some.injEq, Addr.mk.injEq, and_true, true_and] at h'
    obtain ⟨rfl, rfl⟩ := h'
    exact ⟨hb, (Array.getElem?_eq_some_iff.1 hg).1⟩
theorem Row.form {v : Value} (h : Row w B v L) (h0 : 0 < L.length) : ∃ g cap, v = .slice (some ⟨g, 0, none⟩) L.length cap := by
  rcases h.2 with ⟨_, h'⟩ | ⟨g', cap', cur, h', _⟩
  · omega
  · exact ⟨g', cap', h'⟩
/-- the row cut short -/
theorem Row.short (h : Row w B (.slice (some ⟨g, 0, none⟩) L.length cap) L) (m : Nat) (hm : m ≤ L.length) : Row w B (.slice (some ⟨g, 0, none⟩) (L.take m).length cap) (L.take m) := by
  unfold Row at h ⊢
  rw [List.length_take, Nat.min_eq_left hm]
  rcases h.2 with ⟨h', _⟩ | ⟨g', cap', cur, h', hb, hg, hnc, hcm, hcs, htake⟩
  · simp at h'
  · simp only [Value.slice.injEq, Option.some.injEq, Addr.mk.injEq, and_true, true_and] at h'
    obtain ⟨rfl, rfl⟩ := h'
    refine ⟨by rw [flat_length, List.length_take, Nat.min_eq_left hm], .inr ⟨g, cap, cur, rfl, hb, hg, by omega, hcm, hcs, ?_⟩⟩
    rw [flat_take, ← htake, List.take_take, Nat.min_eq_left (by omega)]
/-- cells laid over the row from place i on -/
theorem Row.over (h : Row w B (.slice (some ⟨g, 0, none⟩) L.length cap) L) (i : Nat) (M : List (Int × Int)) (hi : i + M.length ≤ L.length) :
    ∃ cur, w.heap[g]? = some (.cells cur 48 (0, 0)) ∧ L.length * 2 ≤ cur.size ∧
      Row (w.setRow g (cur.toList.take (i * 2) ++ flat M ++ cur.toList.drop (i * 2 + (flat M).length)).toArray) B (.slice (some ⟨g, 0, none⟩) L.length cap) (L.take i ++ M ++ L.drop (i + M.length)) := by
  unfold Row at h ⊢
  rcases h.2 with ⟨h', _⟩ | ⟨g', cap', cur, h', hb, hg, hnc, hcm, hcs, htake⟩
  · simp at h'
  · simp only [Value.slice.injEq, Option.some.injEq, Addr.mk.injEq, and_true, true_and] at h'
    obtain ⟨rfl, rfl⟩ := h'
    have hlen : (L.take i ++ M ++ L.drop (i + M.length)).length = L.length := by simp; omega
    have hsz : L.length * 2 ≤ cur.size := by rw [hcs]; omega
    refine ⟨cur, hg, hsz, by rw [flat_length], ?_⟩
    rw [hlen]
    refine .inr ⟨g, cap, _, rfl, hb, setRow_heap w g cur _ 48 _ hg, hnc, hcm, ?_, ?_⟩
    · simp only [List.size_toArray, List.length_append, List.length_take, List.length_drop, Array.length_toList, flat_length]
      omega
    · rw [flat_append, flat_append, flat_take, flat_drop, ← htake, flat_length]
      have hml := flat_length M
      apply List.ext_getElem?
      intro j
      simp only [List.getElem?_take, List.getElem?_append, List.length_take, List.length_append, List.getElem?_drop, Array.length_toList, hml]
      repeat' split
      all_goals first | omega | rfl | (congr 1; omega) | (simp; omega) | skip
end Go.Proofs.Ytmkhkkfliecfdaa.Given
