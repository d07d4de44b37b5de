/- The contract of PaceRuns, in the printer's form: within the law's bounds the sleep times, call by call. -/
import Derived.Test.YtgdjplpbpknfmaaGiven
import Derived.Test.YtgdjplpbpknfmaaRunDf
import Derived.Test.YtgdjplpbpknfmaaRunS3
namespace Go.Proofs.Ytgdjplpbpknfmaa.Given
open Go.RowKit Go.Proofs.YtgdjplpbpknfmaaW.PrintWords
set_option linter.unusedVariables false

def runsOk (a0_0 a0_1 a0_2 a0_3 a2 : Int) (l3 : List Bool) (l4 : List Int) : Prop :=
  a0_0 ≤ 1099511627775 ∧ a0_1 ≤ 1099511627775 ∧ a0_2 ≤ 16 ∧ a0_3 ≤ 16 ∧ 0 ≤ a2 ∧ a2 < 1099511627776 ∧ l3.length = l4.length ∧ l3.length ≤ 1000 ∧ ∀ t ∈ l4, t < 1099511627776
instance (a0_0 a0_1 a0_2 a0_3 a2 : Int) (l3 : List Bool) (l4 : List Int) : Decidable (runsOk a0_0 a0_1 a0_2 a0_3 a2 l3 l4) := by unfold runsOk; infer_instance
def impl_PaceRuns.f (a0_0 a0_1 a0_2 a0_3 : Int) (a1 : Bool) (a2 : Int) (l3 : List Bool) (l4 : List Int) : Option (List Int) :=
  if runsOk a0_0 a0_1 a0_2 a0_3 a2 l3 l4 then
    some (if a1 then runs s3calc (gv a0_0 0) (gv a0_1 2000000000) (gv a0_2 2) (gv a0_3 1) l3 l4 a2 0 else runs dfcalc (gv a0_0 10000000) (gv a0_1 2000000000) (gv a0_2 2) (gv a0_3 1) l3 l4 a2 0)
  else none
theorem impl_PaceRuns.calls (a0_0 a0_1 a0_2 a0_3 : Int) (a1 : Bool) (a2 : Int) (A3 : Option Addr) (c3 : Nat) (l3 : List Bool) (A4 : Option Addr) (c4 : Nat) (l4 : List Int) (r : List Int) (w : World)
    (hr3 : Kd.C Kd.bool w A3 l3.length l3) (hc3 : l3.length ≤ c3) (hr4 : Kd.C (Kd.int .i64) w A4 l4.length l4) (hc4 : l4.length ≤ c4) (h : impl_PaceRuns.f a0_0 a0_1 a0_2 a0_3 a1 a2 l3 l4 = some r) :
    Calls Try.prog 22 #[.agg #[.int .i64 a0_0, .int .i64 a0_1, .int .i64 a0_2, .int .i64 a0_3], .bool a1, .int .i64 a2, .slice A3 l3.length c3, .slice A4 l4.length c4] w fun e w' =>
      ∃ v0_ : Value, e = .returned (v0_) ∧ Kd.R (Kd.int .i64) 3 w' w.heap.size (fun _ => True) v0_ r ∧ Below w.heap.size w w' := by
  unfold impl_PaceRuns.f at h
  split at h
  · rename_i hc
    obtain ⟨h1, h2, h3, h4, h5, h6, h7, h8, h9⟩ := hc
    obtain rfl := Option.some.inj h
    have hal : ∀ k < l4.length, rd l4 (k : Int) < 1099511627776 := by
      intro k hk
      have e : rd l4 (k : Int) = l4[k] := by simp [rd, hk]
      rw [e]
      exact h9 _ (List.getElem_mem hk)
    have fin : ∀ xs e w', Runs w xs e w' → ∃ v0_ : Value, e = .returned (v0_) ∧ Kd.R (Kd.int .i64) 3 w' w.heap.size (fun _ => True) v0_ xs ∧ Below w.heap.size w w' :=
      fun xs e w' ⟨v, e1, e2, e3⟩ => ⟨v, e1, Kd.R_of_own (h1 := fun _ => rfl) (ok := fun _ => True) e2 (fun _ _ => trivial), e3⟩
    rcases Nat.eq_zero_or_pos l3.length with h0 | h0
    · cases a1 with
      | false => exact (runsDf0 a0_0 a0_1 a0_2 a0_3 a2 A3 A4 c3 c4 l3 l4 w hr3 hr4 h7 (by omega) h1 h2 hal h3 h4 h5 h6).mono (fin _)
      | true => exact (runsS30 a0_0 a0_1 a0_2 a0_3 a2 A3 A4 c3 c4 l3 l4 w hr3 hr4 h7 (by omega) h1 h2 hal h3 h4 h5 h6).mono (fin _)
    · obtain ⟨ad3, rfl, -⟩ := Kd.at_bool hr3 ((0 : Nat) : Int) (by omega) (by omega)
      obtain ⟨ad4, rfl, -⟩ := Kd.at_int hr4 ((0 : Nat) : Int) (by omega) (by omega)
      cases a1 with
      | false => exact (runsDf a0_0 a0_1 a0_2 a0_3 a2 ad3 ad4 c3 c4 l3 l4 w hr3 hr4 h7 h8 h1 h2 hal h3 h4 h5 h6).mono (fin _)
      | true => exact (runsS3 a0_0 a0_1 a0_2 a0_3 a2 ad3 ad4 c3 c4 l3 l4 w hr3 hr4 h7 h8 h1 h2 hal h3 h4 h5 h6).mono (fin _)
  · cases h
end Go.Proofs.Ytgdjplpbpknfmaa.Given
