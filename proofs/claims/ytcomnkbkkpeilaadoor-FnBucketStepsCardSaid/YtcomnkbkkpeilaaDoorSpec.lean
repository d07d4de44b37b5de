/- The contracts of spec.Buckets' methods of and set: what is known of buckets as a function; up to 1,000,000 names. -/
import Derived.Test.YtcomnkbkkpeilaaDoorSteps
import Derived.Deep.RegionHeld3
import Derived.Deep.AppendLies
import Derived.Deep.RegionLaw
namespace Go.Proofs.YtcomnkbkkpeilaaDoor.Given
open Go.RowKit Go.WideMaps Go.Maps Go.Proofs.YtcomnkbkkpeilaaDoorW.PrintWords Go.Proofs.YtcomnkbkkpeilaaDoor.PA
set_option linter.unusedVariables false
set_option linter.unusedSimpArgs false

theorem sinfo9 : (Tryd.prog.info? 9).map (fun i => (i.zero, i.size, i.bytes)) = some (some (.string ⟨#[]⟩), 1, 16) := by kernel_rfl
theorem sinfo3 : (Tryd.prog.info? 3).map (fun i => (i.zero, i.size, i.bytes)) = some (some (.int .i64 0), 1, 8) := by kernel_rfl
def ofK : List (ByteArray × Int) → ByteArray → Int
  | [], _ => 0
  | (n, x) :: r, b => if n = b then x else ofK r b
def code (o : Option Bool) : Int := match o with
  | none => 0
  | some true => 1
  | some false => 2
def nameV (p : ByteArray × Int) : Value := .string p.1
def isV (p : ByteArray × Int) : Value := .int .i64 p.2

/-- What spec.Buckets at block B knows. -/
structure SpecB (w : World) (B base n : Nat) (vN vI : Value) (kv : List (ByteArray × Int)) : Prop where
  hB : w.heap[B]? = some (.cells #[vN, vI] 35 (0, 0))
  oN : w.ownsRow base 9 1 vN n (kv.map nameV)
  oI : w.ownsRow base 3 1 vI n (kv.map isV)
  len : kv.length = n
  sm : n ≤ 1000000

theorem row_at {w : World} {base e n : Nat} {v : Value} {xs : List Value} (h : w.ownsRow base e 1 v n xs) (hn : 0 < n) : ∃ g c, v = .slice (some ⟨g, 0, none⟩) n c ∧ (∀ (j : Nat) (u : Value), xs[j]? = some u → w.cell? ⟨g, j, none⟩ = some u) := by
  rcases h.2 with ⟨rfl, h0⟩ | ⟨g, cap, cur, rfl, hb, hh, hc, hm, hz, ht⟩
  · omega
  · refine ⟨g, cap, rfl, fun j u hu => ?_⟩
    rw [← ht] at hu
    have hj : cur.toList[j]? = some u := by
      rw [List.getElem?_take] at hu
      split at hu
      · exact hu
      · cases hu
    exact cellH hh j u (by simpa using hj)

set_option maxHeartbeats 1000000 in
theorem spec_of (w : World) (B base n : Nat) (vN vI : Value) (kv : List (ByteArray × Int)) (b : ByteArray) (h : SpecB w B base n vN vI kv) :
    Calls Tryd.prog 21 #[.pointer (some ⟨B, 0, none⟩), .string b] w fun e w' => e = .returned (.int .i64 (ofK kv b)) ∧ w' = w := by
  have c0 := cellH h.hB 0 _ rfl
  have c1 := cellH h.hB 1 _ rfl
  simp only [List.getElem_toArray, List.getElem_cons_succ, List.getElem_cons_zero] at c0 c1
  have hsm := h.sm
  obtain ⟨aN, cN, rfl⟩ := own_slice h.oN
  obtain ⟨aI, cI, rfl⟩ := own_slice h.oI
  go_enter Tryd.func21, Tryd.ntmps21
  go_wp2
  go_loopw [12] (fun s12 wr => ∃ i : Nat, s12 = .int .i64 i ∧ i ≤ n ∧ wr = w ∧ Hid (ofK (kv.drop i) b = ofK kv b)) (fun s12 _ => n - (intOf s12).toNat)
  case atStart => exact ⟨0, rfl, Nat.zero_le _, rfl, Lib.hid rfl⟩
  case round =>
    obtain ⟨i, rfl, hi, rfl, hH⟩ := hrel
    by_cases hlt : i < n
    · obtain ⟨g, cg, e1, hg⟩ := row_at h.oN (by omega)
      obtain ⟨gi, ci, e2, hgi⟩ := row_at h.oI (by omega)
      cases e1
      cases e2
      have hk : i < kv.length := by rw [h.len]; exact hlt
      have x1 := hg i (.string kv[i].1) (by simp [nameV, hk])
      have x2 := hgi i (.int .i64 kv[i].2) (by simp [isV, hk])
      have hH2 := hH.out
      rw [List.drop_eq_getElem_cons hk] at hH2
      obtain ⟨p, hp⟩ : ∃ p, kv[i] = p := ⟨_, rfl⟩
      rw [hp] at x1 x2 hH2
      obtain ⟨nm, x⟩ := p
      simp only [ofK] at hH2
      simp only at x1 x2
      clear hg hgi hp
      by_cases hb : nm = b
      · subst hb
        rw [if_pos rfl] at hH2
        have F := Lib.hid hH2
        clear hH2 hH
        go_wp2
        go_ret
        exact ⟨by rw [← F.out]; rfl, rfl⟩
      · rw [if_neg hb] at hH2
        have hb' : (nm.toList == b.toList) = false := by
          rw [beq_eq_false_iff_ne]
          intro e
          rw [ByteArray.toList_eq, ByteArray.toList_eq] at e
          exact hb (ByteArray.ext (Array.toList_inj.1 e))
        have F := Lib.hid hH2
        clear hH2 hH
        go_wp2
        go_roundw
        case rel => exact ⟨i + 1, by go_num, by omega, by trivial, F⟩
        case measure => simp [intOf]; omega
    · have hil : i = n := by omega
      have hv : (0 : Int) = ofK kv b := by
        have := hH.out
        rw [List.drop_eq_nil_of_le (by rw [h.len]; omega)] at this
        exact this
      have hv' := Lib.hid hv
      clear hv hH
      subst hil
      go_wp2
      go_ret
      exact ⟨by rw [← hv'.out]; rfl, rfl⟩

def setK : List (ByteArray × Int) → ByteArray → Int → List (ByteArray × Int)
  | [], b, v => [(b, v)]
  | (n, x) :: r, b, v => if n = b then (b, v) :: r else (n, x) :: setK r b v
theorem ofK_setK (b : ByteArray) (v : Int) : ∀ (kv : List (ByteArray × Int)) (c : ByteArray), ofK (setK kv b v) c = if c = b then v else ofK kv c
  | [], c => by
    simp only [setK, ofK]
    by_cases h : c = b
    · rw [if_pos h, if_pos h.symm]
    · rw [if_neg h, if_neg (fun e => h e.symm)]
  | (n, x) :: r, c => by
    have ih := ofK_setK b v r c
    simp only [setK]
    by_cases hn : n = b
    · rw [if_pos hn]
      simp only [ofK]
      by_cases h : c = b
      · rw [if_pos h, if_pos h.symm]
      · rw [if_neg h, if_neg (fun e => h e.symm), if_neg (fun e => h (by rw [← e, hn]))]
    · rw [if_neg hn]
      simp only [ofK]
      rw [ih]
      by_cases h : n = c
      · rw [if_pos h, if_pos h, if_neg (fun e => hn (by rw [h, e]))]
      · rw [if_neg h, if_neg h]
/-- No name of the first i is b. -/
def freeK (kv : List (ByteArray × Int)) (b : ByteArray) (i : Nat) : Prop := ∀ p ∈ kv.take i, p.1 ≠ b
theorem setK_at (b : ByteArray) (v : Int) : ∀ (kv : List (ByteArray × Int)) (i : Nat) (h : i < kv.length), freeK kv b i → kv[i].1 = b → setK kv b v = kv.set i (b, v)
  | [], i, h, _, _ => by simp at h
  | (n, x) :: r, 0, _, _, hb => by
    simp only [setK, List.set_cons_zero]
    rw [if_pos (show n = b from hb)]
  | (n, x) :: r, i + 1, h, hf, hb => by
    have hn : n ≠ b := hf (n, x) (by simp)
    simp only [setK, List.set_cons_succ]
    rw [if_neg hn, setK_at b v r i (by simpa using h) (fun p hp => hf p (by simp [hp])) (by simpa using hb)]
theorem setK_end (b : ByteArray) (v : Int) : ∀ (kv : List (ByteArray × Int)), freeK kv b kv.length → setK kv b v = kv ++ [(b, v)]
  | [], _ => rfl
  | (n, x) :: r, hf => by
    have hn : n ≠ b := hf (n, x) (by simp)
    simp only [setK]
    rw [if_neg hn, setK_end b v r (fun p hp => hf p (by simp [List.mem_of_mem_take hp]))]
    rfl
theorem set_names (b : ByteArray) (v : Int) (kv : List (ByteArray × Int)) (i : Nat) (h : i < kv.length) (hb : kv[i].1 = b) : (kv.set i (b, v)).map nameV = kv.map nameV := by
  apply List.ext_getElem?
  intro j
  rw [List.getElem?_map, List.getElem?_map, List.getElem?_set]
  by_cases hj : i = j
  · subst hj
    rw [if_pos rfl, if_pos h, List.getElem?_eq_getElem h]
    simp [nameV, hb]
  · rw [if_neg hj]
theorem set_is (b : ByteArray) (v : Int) (kv : List (ByteArray × Int)) (i : Nat) : (kv.set i (b, v)).map isV = (kv.map isV).set i (.int .i64 v) := by
  rw [List.map_set]
  rfl

theorem row_heap {w : World} {base e n g c : Nat} {xs : List Value} (h : w.ownsRow base e 1 (.slice (some ⟨g, 0, none⟩) n c) n xs) : ∃ cur, w.heap[g]? = some (.cells cur e (0, 0)) := by
  rcases h.2 with ⟨h0, _⟩ | ⟨g', cap, cur, h0, _, hh, _⟩
  · cases h0
  · cases h0
    exact ⟨cur, hh⟩

/-- All blocks but B and the two rows stay. -/
def KeepS (B : Nat) (vN vI : Value) (w w' : World) : Prop := w'.os = w.os ∧ w'.tape = w.tape ∧ w'.output = w.output ∧ w.heap.size ≤ w'.heap.size ∧ ∀ k, k < w.heap.size → k ≠ B → some k ≠ vN.ownBlock → some k ≠ vI.ownBlock → w'.heap[k]? = w.heap[k]?


theorem set_fin {wr w7 : World} {B base i gg cap gg2 cap2 : Nat} {vN vI : Value} {kv : List (ByteArray × Int)} {b : ByteArray} {v : Int} (h : SpecB wr B base i vN vI kv) (hn : i + 1 ≤ 1000000)
    (hB7 : w7.heap[B]? = some (.cells #[vN, vI] 35 (0, 0))) (oN : w7.ownsRow base 9 1 (.slice (some ⟨gg, 0, none⟩) (i + 1) cap) (i + 1) (kv.map nameV ++ [.string b])) (oI : w7.ownsRow base 3 1 (.slice (some ⟨gg2, 0, none⟩) (i + 1) cap2) (i + 1) (kv.map isV ++ [.int .i64 v]))
    (hk : w7.os = wr.os ∧ w7.tape = wr.tape ∧ w7.output = wr.output ∧ wr.heap.size ≤ w7.heap.size ∧ ∀ k, k < wr.heap.size → some k ≠ vN.ownBlock → some k ≠ vI.ownBlock → w7.heap[k]? = wr.heap[k]?) (e3 : setK kv b v = kv ++ [(b, v)]) :
    ∃ n' vN' vI', n' ≤ i + 1 ∧ SpecB ((w7.setCell ⟨B, 0, none⟩ (.slice (some ⟨gg, 0, none⟩) (i + 1) cap)).setCell ⟨B, 1, none⟩ (.slice (some ⟨gg2, 0, none⟩) (i + 1) cap2)) B base n' vN' vI' (setK kv b v) ∧
      KeepS B vN vI wr ((w7.setCell ⟨B, 0, none⟩ (.slice (some ⟨gg, 0, none⟩) (i + 1) cap)).setCell ⟨B, 1, none⟩ (.slice (some ⟨gg2, 0, none⟩) (i + 1) cap2)) := by
  have hB8 := setH hB7 0 (.slice (some ⟨gg, 0, none⟩) (i + 1) cap) (by simp)
  have hB9 := setH hB8 1 (.slice (some ⟨gg2, 0, none⟩) (i + 1) cap2) (by simp)
  have sc : ∀ k, k ≠ B → ((w7.setCell ⟨B, 0, none⟩ (.slice (some ⟨gg, 0, none⟩) (i + 1) cap)).setCell ⟨B, 1, none⟩ (.slice (some ⟨gg2, 0, none⟩) (i + 1) cap2)).heap[k]? = w7.heap[k]? := fun k hkb => (Below.heap_setCell _ _ _ k hkb).trans (Below.heap_setCell _ _ _ k hkb)
  have nb1 := own_ne oN hB7 (by decide)
  have nb2 := own_ne oI hB7 (by decide)
  rw [e3]
  refine ⟨i + 1, _, _, Nat.le_refl _, ⟨hB9, ?_, ?_, by rw [List.length_append, h.len]; rfl, hn⟩, hk.1, hk.2.1, hk.2.2.1, ?_, ?_⟩
  · rw [List.map_append]
    exact own_move oN (fun k e => sc k (fun e' => nb1 (by rw [e, e'])))
  · rw [List.map_append]
    exact own_move oI (fun k e => sc k (fun e' => nb2 (by rw [e, e'])))
  · have := hk.2.2.2.1
    simpa using this
  · intro k h1 h2 h3 h4
    exact (sc k h2).trans (hk.2.2.2.2 k h1 h3 h4)
theorem keep7 {wr W w6 w6' w7 : World} {vN vI : Value} (h1 : Below wr.heap.size wr W) (hgrow : W.grownBy w6 vN.ownBlock) (h2 : Below w6.heap.size w6 w6') (hgrow2 : w6'.grownBy w7 vI.ownBlock) :
    w7.os = wr.os ∧ w7.tape = wr.tape ∧ w7.output = wr.output ∧ wr.heap.size ≤ w7.heap.size ∧ ∀ k, k < wr.heap.size → some k ≠ vN.ownBlock → some k ≠ vI.ownBlock → w7.heap[k]? = wr.heap[k]? :=
  ⟨((hgrow2.os.trans h2.os).trans hgrow.os).trans h1.os, ((hgrow2.tape.trans h2.tape).trans hgrow.tape).trans h1.tape, ((hgrow2.output.trans h2.output).trans hgrow.output).trans h1.output,
   Nat.le_trans h1.size (Nat.le_trans hgrow.size (Nat.le_trans h2.size hgrow2.size)),
   fun k hk hn hi => ((((hgrow2.block k (Nat.lt_of_lt_of_le hk (Nat.le_trans h1.size (Nat.le_trans hgrow.size h2.size))) hi).trans (h2.block k (Nat.lt_of_lt_of_le hk (Nat.le_trans h1.size hgrow.size)))).trans (hgrow.block k (Nat.lt_of_lt_of_le hk h1.size) hn)).trans (h1.block k hk))⟩
end Go.Proofs.YtcomnkbkkpeilaaDoor.Given
