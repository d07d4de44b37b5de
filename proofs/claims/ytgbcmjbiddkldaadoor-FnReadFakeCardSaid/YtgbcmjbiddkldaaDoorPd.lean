/- Readers' memory: bytes that are read, the parts that are left, what stays; no condition. -/
import Derived.Test.YtgbcmjbiddkldaaDoorEr
import Derived.Test.YtgbcmjbiddkldaaDoorPRx1
import Derived.Laws.CopyOwn
import Derived.Laws.MakeOwn
namespace Go.Proofs.YtgbcmjbiddkldaaDoor.Given
open Go.RowKit Go.Proofs.YtgbcmjbiddkldaaDoorW.PrintWords Go.Proofs.YtgbcmjbiddkldaaDoor.PR
set_option linter.unusedVariables false
set_option linter.unusedSimpArgs false

def byV (xs : List Int) : List Value := xs.map (.int .u8)
theorem byV_len (xs : List Int) : (byV xs).length = xs.length := by simp [byV]
theorem byV_one (xs : List Int) : ∀ v ∈ byV xs, v.oneCell' = true := by
  intro v hv
  obtain ⟨x, _, rfl⟩ := List.mem_map.1 hv
  rfl
theorem byV_get {xs : List Int} {j : Nat} {v : Value} (h : (byV xs)[j]? = some v) : ∃ x, xs[j]? = some x ∧ v = .int .u8 x := by
  unfold byV at h
  rw [List.getElem?_map] at h
  obtain ⟨x, h1, h2⟩ := Option.map_eq_some_iff.1 h
  exact ⟨x, h1, h2.symm⟩
theorem add_block (a : Addr) (n : Nat) : (a.add n).block = a.block := by
  unfold Addr.add
  split <;> rfl
theorem add_add (a : Addr) (n m : Nat) : (a.add n).add m = a.add (n + m) := by
  unfold Addr.add
  by_cases h1 : n = 0
  · subst h1; simp
  · by_cases h2 : m = 0
    · subst h2; simp [h1]
    · have : n + m ≠ 0 := by omega
      simp [h1, h2, Nat.add_assoc]
/-- v is a slice of bytes xs that lie below block M. -/
def RdB (w : World) (M : Nat) (v : Value) (xs : List Int) : Prop :=
  ∃ A c, v = .slice A xs.length c ∧ xs.length ≤ c ∧ ∀ j x, xs[j]? = some x → ∃ a, A = some a ∧ a.block < M ∧ w.cell? (a.add j) = some (.int .u8 x)
theorem cell_kept {w w' : World} {a : Addr} (h : w'.heap[a.block]? = w.heap[a.block]?) : w'.cell? a = w.cell? a := by
  unfold World.cell?
  rw [h]
theorem RdB.kept {w w' : World} {M : Nat} {v : Value} {xs : List Int} (h : RdB w M v xs) (hk : ∀ k, k < M → w'.heap[k]? = w.heap[k]?) : RdB w' M v xs := by
  obtain ⟨A, c, rfl, hc, hr⟩ := h
  refine ⟨A, c, rfl, hc, fun j x hj => ?_⟩
  obtain ⟨a, h1, h2, h3⟩ := hr j x hj
  exact ⟨a, h1, h2, (cell_kept (hk _ (by rw [add_block]; exact h2))).trans h3⟩
theorem RdB.mono {w : World} {M M' : Nat} {v : Value} {xs : List Int} (h : RdB w M v xs) (hM : M ≤ M') : RdB w M' v xs := by
  obtain ⟨A, c, rfl, hc, hr⟩ := h
  refine ⟨A, c, rfl, hc, fun j x hj => ?_⟩
  obtain ⟨a, h1, h2, h3⟩ := hr j x hj
  exact ⟨a, h1, by omega, h3⟩
theorem drop_parts {w : World} {M : Nat} {A : Option Addr} {c k : Nat} {xs : List Int} (hk : k ≤ xs.length) (hc : xs.length ≤ c) (hr : ∀ j x, xs[j]? = some x → ∃ a, A = some a ∧ a.block < M ∧ w.cell? (a.add j) = some (.int .u8 x)) :
    RdB w M (.slice (if c = k then A else A.map (·.add (k * 1))) (xs.length - k) (c - k)) (xs.drop k) := by
  refine ⟨_, _, by rw [List.length_drop], by rw [List.length_drop]; omega, fun j x hj => ?_⟩
  rw [List.getElem?_drop] at hj
  have hlt : k + j < xs.length := (List.getElem?_eq_some_iff.1 hj).1
  obtain ⟨a, h1, h2, h3⟩ := hr (k + j) x hj
  rw [if_neg (by omega)]
  subst h1
  refine ⟨a.add k, by simp, by rw [add_block]; exact h2, by rw [add_add]; exact h3⟩

/-- A parts' reader at block Q: these parts are left. -/
def PR (w : World) (M Q : Nat) (fails : Bool) (ps : List (List Int)) : Prop :=
  M ≤ Q ∧ ∃ A c, w.heap[Q]? = some (.cells #[.slice A ps.length c, .bool fails, .bool false] 52 (0, 0)) ∧ ps.length ≤ c ∧
    (ps ≠ [] → ∃ G off cur, A = some ⟨G, off, none⟩ ∧ M ≤ G ∧ w.heap[G]? = some (.cells cur 29 (0, 0)) ∧ ∀ j p, ps[j]? = some p → ∃ v, cur[off + j]? = some v ∧ RdB w M v p)

theorem PR.moved {w w' : World} {M Q : Nat} {fails : Bool} {ps : List (List Int)} (h : PR w M Q fails ps) (hk : ∀ k, (k < M ∨ ∃ c t, w.heap[k]? = some (.cells c t (0, 0)) ∧ (t = 52 ∨ t = 29)) → w'.heap[k]? = w.heap[k]?) : PR w' M Q fails ps := by
  obtain ⟨h1, A, c, h2, h3, h4⟩ := h
  refine ⟨h1, A, c, (hk Q (.inr ⟨_, _, h2, .inl rfl⟩)).trans h2, h3, fun hp => ?_⟩
  obtain ⟨G, off, cur, e, h5, h6, h7⟩ := h4 hp
  refine ⟨G, off, cur, e, h5, (hk G (.inr ⟨_, _, h6, .inr rfl⟩)).trans h6, fun j p hj => ?_⟩
  obtain ⟨v, h8, h9⟩ := h7 j p hj
  exact ⟨v, h8, h9.kept (fun k hk' => hk k (.inl hk'))⟩
/-- All stays but block D, and what holds readers' parts above M. -/
structure Fr (M D : Nat) (w w' : World) : Prop where
  os : w'.os = w.os
  tape : w'.tape = w.tape
  output : w'.output = w.output
  size : w.heap.size ≤ w'.heap.size
  block : ∀ k, k < w.heap.size → k ≠ D → (k < M ∨ ∃ cur t, w.heap[k]? = some (.cells cur t (0, 0)) ∧ t ≠ 52 ∧ t ≠ 29) → w'.heap[k]? = w.heap[k]?
theorem Fr.refl (M D : Nat) (w : World) : Fr M D w w := ⟨rfl, rfl, rfl, Nat.le_refl _, fun _ _ _ _ => rfl⟩
theorem Fr.trans {M D : Nat} {a b c : World} (h : Fr M D a b) (k : Fr M D b c) : Fr M D a c := by
  refine ⟨k.os.trans h.os, k.tape.trans h.tape, k.output.trans h.output, Nat.le_trans h.size k.size, fun i hi hd hq => ?_⟩
  have h1 := h.block i hi hd hq
  exact (k.block i (Nat.lt_of_lt_of_le hi h.size) hd (by rw [h1]; exact hq)).trans h1
theorem Fr.low {M D : Nat} {a b : World} (h : Fr M D a b) (hD : M ≤ D) (hM : M ≤ a.heap.size) : ∀ k, k < M → b.heap[k]? = a.heap[k]? := fun k hk => h.block k (by omega) (by omega) (.inl hk)
theorem Fr.at_ {M D g : Nat} {a b : World} {cur : Array Value} {t : TypeId} (h : Fr M D a b) (hg : a.heap[g]? = some (.cells cur t (0, 0))) (hD : g ≠ D) (h52 : t ≠ 52) (h29 : t ≠ 29) : b.heap[g]? = some (.cells cur t (0, 0)) :=
  (h.block g (ltH hg) hD (.inr ⟨cur, t, hg, h52, h29⟩)).trans hg
theorem Fr.below {M D : Nat} {a b : World} (hb : Below a.heap.size a b) : Fr M D a b := ⟨hb.os, hb.tape, hb.output, hb.size, fun k hk _ _ => hb.block k hk⟩
theorem Fr.toBelow {M D : Nat} {a b : World} (h : Fr M D a b) (hD : M ≤ D) (hM : M ≤ a.heap.size) : Below M a b := ⟨h.os, h.tape, h.output, h.size, h.low hD hM⟩

def rdP (fails : Bool) (n : Nat) : List (List Int) → List Int × Int × List (List Int)
  | [] => ([], if fails then 2 else 1, [])
  | p :: r => (p.take n, 0, if p.length ≤ n then r else p.drop n :: r)
end Go.Proofs.YtgbcmjbiddkldaaDoor.Given
