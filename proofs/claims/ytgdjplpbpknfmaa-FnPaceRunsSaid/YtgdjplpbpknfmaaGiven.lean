/- The contracts of PaceAzure, PaceS3 and PaceDefault in the printer's form, for states and options within bounds. -/
import Derived.Test.YtgdjplpbpknfmaaTwo
namespace Go.Proofs.Ytgdjplpbpknfmaa.Given
open Go.RowKit

def stOk (s r x : Int) : Prop := 0 ≤ s ∧ s < 1099511627776 ∧ 0 ≤ r ∧ 0 ≤ x ∧ x ≤ 1000
instance (s r x : Int) : Decidable (stOk s r x) := by unfold stOk; infer_instance

def impl_PaceAzure.f (a0_0 a0_1 _a0_2 a0_3 : Int) : Option Int := if stOk a0_0 a0_1 a0_3 then some (azure a0_0 a0_1) else none
theorem impl_PaceAzure.calls (a0_0 a0_1 a0_2 a0_3 : Int) (r : Int) (w : World) (h : impl_PaceAzure.f a0_0 a0_1 a0_2 a0_3 = some r) :
    Calls Try.prog 8 #[.agg #[.int .i64 a0_0, .int .i64 a0_1, .int .i64 a0_2, .int .i64 a0_3]] w fun e w' => e = .returned (.int .i64 r) ∧ Below w.heap.size w w' := by
  unfold impl_PaceAzure.f at h
  split at h
  · rename_i hc
    obtain ⟨h1, h2, h3, h4, h5⟩ := hc
    obtain rfl := Option.some.inj h
    exact paceAzure _ _ _ _ w h4 h5 h3 h1 h2
  · cases h
def impl_PaceS3.f (a0_0 a0_1 a0_2 a0_3 a1_0 a1_1 a1_2 a1_3 : Int) : Option Int := if stOk a1_0 a1_1 a1_3 ∧ a0_2 ≤ 16 ∧ a0_3 ≤ 16 then some (paceOf s3calc (gv a0_0 0) (gv a0_1 2000000000) (gv a0_2 2) (gv a0_3 1) a1_0 a1_1 a1_2 a1_3) else none
theorem impl_PaceS3.calls (a0_0 a0_1 a0_2 a0_3 a1_0 a1_1 a1_2 a1_3 : Int) (r : Int) (w : World) (h : impl_PaceS3.f a0_0 a0_1 a0_2 a0_3 a1_0 a1_1 a1_2 a1_3 = some r) :
    Calls Try.prog 10 #[.agg #[.int .i64 a0_0, .int .i64 a0_1, .int .i64 a0_2, .int .i64 a0_3], .agg #[.int .i64 a1_0, .int .i64 a1_1, .int .i64 a1_2, .int .i64 a1_3]] w fun e w' => e = .returned (.int .i64 r) ∧ Below w.heap.size w w' := by
  unfold impl_PaceS3.f at h
  split at h
  · rename_i hc
    obtain ⟨⟨h1, h2, h3, h4, h5⟩, h6, h7⟩ := hc
    obtain rfl := Option.some.inj h
    exact paceS3 _ _ _ _ _ _ _ _ w h6 h7 h4 h5 h3 h1 h2
  · cases h
def impl_PaceDefault.f (a0_0 a0_1 a0_2 a0_3 a1_0 a1_1 a1_2 a1_3 : Int) : Option Int := if stOk a1_0 a1_1 a1_3 ∧ a0_2 ≤ 16 ∧ a0_3 ≤ 16 then some (paceOf dfcalc (gv a0_0 10000000) (gv a0_1 2000000000) (gv a0_2 2) (gv a0_3 1) a1_0 a1_1 a1_2 a1_3) else none
theorem impl_PaceDefault.calls (a0_0 a0_1 a0_2 a0_3 a1_0 a1_1 a1_2 a1_3 : Int) (r : Int) (w : World) (h : impl_PaceDefault.f a0_0 a0_1 a0_2 a0_3 a1_0 a1_1 a1_2 a1_3 = some r) :
    Calls Try.prog 21 #[.agg #[.int .i64 a0_0, .int .i64 a0_1, .int .i64 a0_2, .int .i64 a0_3], .agg #[.int .i64 a1_0, .int .i64 a1_1, .int .i64 a1_2, .int .i64 a1_3]] w fun e w' => e = .returned (.int .i64 r) ∧ Below w.heap.size w w' := by
  unfold impl_PaceDefault.f at h
  split at h
  · rename_i hc
    obtain ⟨⟨h1, h2, h3, h4, h5⟩, h6, h7⟩ := hc
    obtain rfl := Option.some.inj h
    exact paceDf _ _ _ _ _ _ _ _ w h6 h7 h4 h5 h3 h1 h2
  · cases h
end Go.Proofs.Ytgdjplpbpknfmaa.Given
