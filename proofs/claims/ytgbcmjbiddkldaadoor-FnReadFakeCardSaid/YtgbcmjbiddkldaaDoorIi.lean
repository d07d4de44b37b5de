/- Small facts: an inner reader at its beginning; what a read leaves. -/
import Derived.Test.YtgbcmjbiddkldaaDoorIn
namespace Go.Proofs.YtgbcmjbiddkldaaDoor.Given
open Go.RowKit Go.Proofs.YtgbcmjbiddkldaaDoorW.PrintWords Go.Proofs.YtgbcmjbiddkldaaDoor.PR Go.Proofs.YtgbcmjbiddkldaaDoor.Pl
set_option linter.unusedVariables false
set_option linter.unusedSimpArgs false

theorem rdP_parts (fails : Bool) (n : Nat) (ps : List (List Int)) : (rdP fails n ps).1.length ≤ n ∧ (rdP fails n ps).2.2.length ≤ ps.length ∧ (∀ K, (∀ p ∈ ps, p.length ≤ K) → ∀ p ∈ (rdP fails n ps).2.2, p.length ≤ K) := by
  cases ps with
  | nil => simp [rdP]
  | cons p r =>
    simp only [rdP]
    refine ⟨by simp; omega, by split <;> simp, fun K hK => ?_⟩
    split
    · intro q hq; exact hK q (by simp [hq])
    · intro q hq
      rcases List.mem_cons.1 hq with rfl | hq
      · have := hK p (by simp); simp; omega
      · exact hK q (by simp [hq])
theorem IR.init {w : World} {A : Option Addr} {c : Nat} {l : List (List Int)} {fails : Bool} (hC : Kd.C (Kd.slice 5 (Kd.int .u8)) w A l.length l) (hc : l.length ≤ c) : IR (w.alloc (.cells #[.slice A l.length c, .bool fails] 38)) w.heap.size w.heap.size fails l := by
  refine ⟨Nat.le_refl _, A, c, (MapKept.heap_alloc w _).1, hc, fun hl => ?_⟩
  obtain ⟨ad, rfl, vs, h1, h2, h3, h4⟩ := parts_rd hC hl
  have hb : Below w.heap.size w (w.alloc (.cells #[.slice (some ad) l.length c, .bool fails] 38)) := (Below.refl _ _).alloc (Nat.le_refl _) _
  have hpos : 0 < vs.length := by rw [h1]; exact List.length_pos_iff.2 hl
  have hlt : ad.block < w.heap.size := by
    have := World.block_lt_of_cell? w _ (h2 0 vs[0] (by simp))
    rwa [add_block] at this
  exact ⟨ad, vs, rfl, by omega, h1, fun j v hj => (cell_kept (hb.block _ (by rw [add_block]; exact hlt))).trans (h2 j v hj), fun j p v hj hv => (h3 j p v hj hv).kept hb.block, h4⟩
theorem RdB.form {w : World} {M : Nat} {v : Value} {xs : List Int} (h : RdB w M v xs) : ∃ A c, v = .slice A xs.length c := by
  obtain ⟨A, c, e, _⟩ := h
  exact ⟨A, c, e⟩
end Go.Proofs.YtgbcmjbiddkldaaDoor.Given
