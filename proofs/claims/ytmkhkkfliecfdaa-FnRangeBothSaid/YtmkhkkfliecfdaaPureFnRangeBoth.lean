/- FnRangeBoth: what two ranges of sizes from 1 on have in common is told alike by the package (whichever is asked first) and by the bounds' greater and lesser; the zero range, if there is nothing. No conditions. -/
import Derived.Test.YtmkhkkfliecfdaaPTx32
import Derived.Test.YtmkhkkfliecfdaaPl
namespace Go.Proofs.Ytmkhkkfliecfdaa.Pure
open Go.RowKit Go.Proofs.Ytmkhkkfliecfdaa.PT Go.Proofs.YtmkhkkfliecfdaaW.PrintWords Go.Proofs.YtmkhkkfliecfdaaW.PrintLast Go.Proofs.Ytmkhkkfliecfdaa.Pl Go.Proofs.Ytmkhkkfliecfdaa.Given Go.Proofs.Ytmkhkkfliecfdaa.Mm
set_option linter.unusedVariables false
set_option linter.unusedSimpArgs false

theorem both_in (a b : Int) : ∃ t, spec_RangeIn.f a b = some t ∧ (t = true → -1099511627776 ≤ b ∧ b ≤ 1099511627776 ∧ -1099511627776 ≤ a ∧ a ≤ 1099511627776) := by
  unfold spec_RangeIn.f
  by_cases h1 : b ≥ -1099511627776
  · rw [if_pos h1]
    by_cases h2 : b ≤ 1099511627776
    · rw [if_pos h2]
      by_cases h3 : a ≥ -1099511627776
      · rw [if_pos h3]; exact ⟨_, rfl, by simp; omega⟩
      · rw [if_neg h3]; exact ⟨_, rfl, by simp⟩
    · rw [if_neg h2]; exact ⟨_, rfl, by simp⟩
  · rw [if_neg h1]; exact ⟨_, rfl, by simp⟩
theorem both_awake : ∀ k, 12 ≤ k → laws_rangeAwake.f k = some true := fun k hk => at_rounds laws_rangeAwake.mono hk (by decide +kernel)
theorem both_f (a b c d : Int) (ha : Near (a, b)) (hc : Near (c, d)) : impl_RangeBoth.f a b c d = some (interP (a, b) (c, d)) := by
  unfold impl_RangeBoth.f impl_given.f impl_told.f ranges_Range_Intersection.f
  simp only [Option.bind_some]
  rw [if_pos ⟨decide_eq_true ha, decide_eq_true hc⟩]
  rfl
theorem both_sym (a b c d : Int) : interP (a, b) (c, d) = interP (c, d) (a, b) := by
  unfold interP
  simp only
  repeat' split
  all_goals first | rfl | (exfalso; omega) | (refine Prod.ext ?_ ?_ <;> simp only <;> omega)
theorem both_none (a b c d : Int) (hb : 1 ≤ b) (hd : 1 ≤ d) (h : (if a < c then c else a) ≥ (if c + d < a + b then c + d else a + b)) : interP (a, b) (c, d) = (0, 0) := by
  unfold interP
  simp only
  rw [if_neg]
  rintro (⟨x, y⟩ | ⟨x, y⟩) <;> (split at h <;> split at h <;> omega)
theorem both_some (a b c d : Int) (hb : 1 ≤ b) (hd : 1 ≤ d) (h : ¬ (if a < c then c else a) ≥ (if c + d < a + b then c + d else a + b)) :
    interP (a, b) (c, d) = ((if a < c then c else a), (if c + d < a + b then c + d else a + b) - (if a < c then c else a)) := by
  unfold interP
  simp only
  rw [if_pos]
  by_cases x : c ≤ a
  · exact .inl ⟨x, by split at h <;> split at h <;> omega⟩
  · exact .inr ⟨by omega, by split at h <;> split at h <;> omega⟩
theorem FnRangeBoth : laws_FnRangeBoth.Pure := by
  intro a b c d _ _
  obtain ⟨t1, h1, h1'⟩ := both_in a b
  obtain ⟨t2, h2, h2'⟩ := both_in c d
  by_cases hskip : t1 = true ∧ t2 = true ∧ 1 ≤ b ∧ 1 ≤ d
  · obtain ⟨rfl, rfl, hb, hd⟩ := hskip
    obtain ⟨a1, a2, a3, a4⟩ := h1' rfl
    obtain ⟨c1, c2, c3, c4⟩ := h2' rfl
    refine ⟨20, ?_⟩
    simp only [laws_FnRangeBoth.f, h1, h2, Option.bind_some, if_true]
    rw [if_neg (by omega), decide_eq_false (by omega)]
    have hna : Near (a, b) := ⟨by simp only; omega, by simp only; omega, by simp only; omega, by simp only; omega⟩
    have hnc : Near (c, d) := ⟨by simp only; omega, by simp only; omega, by simp only; omega, by simp only; omega⟩
    have wa : wrap64 (a + b) = a + b := wrap64_id (by omega) (by omega)
    have wc : wrap64 (c + d) = c + d := wrap64_id (by omega) (by omega)
    simp only [laws_FnRangeBoth.j0]
    rw [if_neg (by decide), both_f a b c d hna hnc, both_f c d a b hnc hna, both_awake 19 (by omega)]
    simp only [Option.bind_some, if_true]
    have he : impl_RangeEnd.f a b = some (a + b) := by unfold impl_RangeEnd.f impl_given.f ranges_Range_End.f; simp only [Option.bind_some]; rw [wa]
    have hem : ∀ x y, impl_RangeEmpty.f x y = some (decide (y ≤ 0)) := fun x y => rfl
    rw [he]
    simp only [Option.bind_some]
    rw [wa, wc, if_pos rfl, hem, Option.bind_some, decide_eq_false (by omega)]
    simp only [laws_FnRangeBoth.j1]
    rw [if_neg (by decide)]
    have hsym : interP (a, b) (c, d) = interP (c, d) (a, b) := both_sym a b c d
    rw [← hsym]
    have e1 : mx a c = if a < c then c else a := rfl
    have e2 : mn (a + b) (c + d) = if c + d < a + b then c + d else a + b := rfl
    by_cases hge : mx a c ≥ mn (a + b) (c + d)
    · rw [if_pos hge, hem, Option.bind_some]
      have h0 : interP (a, b) (c, d) = (0, 0) := both_none a b c d hb hd (by rw [e1, e2] at hge; exact hge)
      rw [h0]
      rfl
    · rw [if_neg hge]
      have h0 : interP (a, b) (c, d) = (mx a c, mn (a + b) (c + d) - mx a c) := both_some a b c d hb hd (by rw [e1, e2] at hge; exact hge)
      have b1 : -8796093022208 ≤ mx a c ∧ mx a c ≤ 8796093022208 := by rw [e1]; split <;> omega
      have b2 : -8796093022208 ≤ mn (a + b) (c + d) ∧ mn (a + b) (c + d) ≤ 8796093022208 := by rw [e2]; split <;> omega
      have hw : wrap64 (mn (a + b) (c + d) - mx a c) = mn (a + b) (c + d) - mx a c := wrap64_id (by omega) (by omega)
      rw [h0]
      simp only
      rw [hw, if_pos (by simp), if_pos (by simp), hem, Option.bind_some, decide_eq_false (by omega), if_neg (by decide)]
      unfold impl_RangeEnd.f impl_given.f ranges_Range_End.f
      simp only [Option.bind_some]
      rw [show mx a c + (mn (a + b) (c + d) - mx a c) = mn (a + b) (c + d) by omega, wrap64_id (by omega) (by omega)]
      simp
  · refine ⟨20, ?_⟩
    have hj : ∀ t : Bool, t = true → laws_FnRangeBoth.j0 20 t a b c d = some true := by
      rintro _ rfl
      simp [laws_FnRangeBoth.j0]
    simp only [laws_FnRangeBoth.f, h1, h2, Option.bind_some]
    cases t1 with
    | false => rw [if_neg (by decide)]; exact hj _ rfl
    | true =>
      rw [if_pos rfl]
      cases t2 with
      | false => rw [if_neg (by decide)]; exact hj _ rfl
      | true =>
        rw [if_pos rfl]
        by_cases hb : b < 1
        · rw [if_pos hb]; exact hj _ rfl
        · rw [if_neg hb]; exact hj _ (decide_eq_true (by have : ¬ 1 ≤ d := fun h => hskip ⟨rfl, rfl, by omega, h⟩; omega))
end Go.Proofs.Ytmkhkkfliecfdaa.Pure
