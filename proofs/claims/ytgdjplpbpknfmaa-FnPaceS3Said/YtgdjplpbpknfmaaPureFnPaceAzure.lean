/- FnPaceAzure: the calculator of the instance metadata service waits 2 to the power of the retries longer behind up to four of them; within the law's own bounds, no other conditions. -/
import Derived.Test.YtgdjplpbpknfmaaPSx1
import Derived.Test.YtgdjplpbpknfmaaPl
namespace Go.Proofs.Ytgdjplpbpknfmaa.Pure
open Go.RowKit Go.Proofs.Ytgdjplpbpknfmaa.PS Go.Proofs.YtgdjplpbpknfmaaW.PrintWords Go.Proofs.YtgdjplpbpknfmaaW.PrintLast Go.Proofs.Ytgdjplpbpknfmaa.Pl Go.Proofs.Ytgdjplpbpknfmaa.Given

theorem in_true {a b c d e f g h : Int} (H : spec_PaceIn.f a b c d e f g h = some true) : a < 1099511627776 ∧ b < 1099511627776 ∧ c ≤ 16 ∧ d ≤ 16 ∧ 0 ≤ e ∧ e < 1099511627776 ∧ 0 ≤ f ∧ f < 1099511627776 ∧ g < 1099511627776 ∧ 0 ≤ h ∧ h ≤ 8 := by
  unfold spec_PaceIn.f at H
  repeat' split at H
  all_goals simp at H
  omega
theorem in_some (a b c d e f g h : Int) : ∃ t, spec_PaceIn.f a b c d e f g h = some t := by
  unfold spec_PaceIn.f
  repeat' split
  all_goals exact ⟨_, rfl⟩

theorem FnPaceAzure : laws_FnPaceAzure.Pure := by
  intro s r t x _
  refine ⟨10, ?_⟩
  unfold laws_FnPaceAzure.f
  obtain ⟨b, hb⟩ := in_some 0 0 0 0 s r t x
  rw [hb]
  simp only [Option.bind_some]
  cases b with
  | false => rfl
  | true =>
    obtain ⟨_, _, _, _, h1, h2, h3, h4, h5, h6, h7⟩ := in_true hb
    rw [if_pos rfl]
    have e1 : impl_PaceAzure.f s r t x = some (azure s r) := by
      unfold impl_PaceAzure.f; rw [if_pos ⟨h1, h2, h3, h6, by omega⟩]
    have e2 : impl_PaceAzure.f 0 1 (-1) 0 = some 2000000000 := by decide
    have e3 : spec_PaceAzure.f 10 s r t x = some (azure s r) := by
      unfold spec_PaceAzure.f azure
      by_cases c0 : r = 0
      · rw [if_pos c0, if_pos c0]
      · rw [if_neg c0, if_neg c0]
        by_cases c4 : r ≤ 4
        · rw [if_pos c4, if_neg (by omega)]
          have hc : r = 1 ∨ r = 2 ∨ r = 3 ∨ r = 4 := by omega
          rcases hc with rfl | rfl | rfl | rfl
          · have : spec_power.f 10 1 = some 2 := by decide +kernel
            rw [this]; simp only [Option.bind_some]; rw [show wrap64 ((2 : Int) * 1000000000) = 2000000000 by decide +kernel, wrap64_id (by omega) (by omega)]; congr 1; repeat' split
            all_goals omega
          · have : spec_power.f 10 2 = some 4 := by decide +kernel
            rw [this]; simp only [Option.bind_some]; rw [show wrap64 ((4 : Int) * 1000000000) = 4000000000 by decide +kernel, wrap64_id (by omega) (by omega)]; congr 1; repeat' split
            all_goals omega
          · have : spec_power.f 10 3 = some 8 := by decide +kernel
            rw [this]; simp only [Option.bind_some]; rw [show wrap64 ((8 : Int) * 1000000000) = 8000000000 by decide +kernel, wrap64_id (by omega) (by omega)]; congr 1; repeat' split
            all_goals omega
          · have : spec_power.f 10 4 = some 16 := by decide +kernel
            rw [this]; simp only [Option.bind_some]; rw [show wrap64 ((16 : Int) * 1000000000) = 16000000000 by decide +kernel, wrap64_id (by omega) (by omega)]; congr 1; repeat' split
            all_goals omega
        · rw [if_neg c4, if_pos (by omega)]
    rw [e1, e2, e3]
    simp
end Go.Proofs.Ytgdjplpbpknfmaa.Pure
