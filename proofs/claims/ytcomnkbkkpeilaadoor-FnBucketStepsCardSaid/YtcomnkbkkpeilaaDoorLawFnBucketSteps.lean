/- FnBucketSteps: what each step over a cache of buckets answers, and which functions are called, is what the specification says; for every list of steps, the variable ErrAlreadyDeleted tied to the program's text. -/
import Derived.Test.YtcomnkbkkpeilaaDoorRows
import Derived.Test.YtcomnkbkkpeilaaDoorCards
import Derived.Test.YtcomnkbkkpeilaaDoorTie
import Derived.Test.YtcomnkbkkpeilaaDoorLaid
import Derived.Test.YtcomnkbkkpeilaaDoorStepsLaw
import Derived.Test.YtcomnkbkkpeilaaDoorRd
import Derived.WalkKit
import Derived.ProofKit
import Derived.OpenShut
import Derived.ShutString
import Derived.ChangeOld
import Derived.ChangeSame
import Derived.ChangeVars
import Derived.JoinedOf
import Derived.RowKit
import Derived.RowKitTokens
import Derived.LaidLaws
import Derived.Stop.Joined
import Derived.Below
import Derived.SizedLaws
import Derived.SevenTiedAt
namespace Go.Proofs.YtcomnkbkkpeilaaDoor.fnBucketSteps
open Go.ChangeShapes Go.WideShapes Go.ChangeAt Go.RowKit Go.Proofs.YtcomnkbkkpeilaaDoorW.PrintWords Go.Proofs.YtcomnkbkkpeilaaDoor.PA Go.Proofs.YtcomnkbkkpeilaaDoor.Given
theorem own : ownKnob Tryd.prog.godebug = none := by kernel_rfl
theorem laidOut : laidOutB Tryd.prog = true := by kernel_rfl
set_option maxRecDepth 100000 in
theorem lifted (os : Os) (started : os.Started) (H : Type) (enc : TypeId × Value → H) :
    ReturnsInHanded {} Tryd.checked os 4 .any (fun w args => (Rows.fnBucketStepsSpec.pre enc Tryd.prog Tryd.f4 [] false w args ∧ laidMetH Tryd.prog Rows.fnBucketStepsRow.laid w) ∧ sizedMet enc Tryd.prog Tryd.f4 (OpenSpec.ofChange Rows.fnBucketStepsSpec) false w args)
      (Rows.fnBucketStepsSpec.post enc Tryd.prog Tryd.f4 false true false false) := by
  refine returnsInHanded_of_change_and (C := Tryd.checked) (X := fun w _ => laidMetH Tryd.prog Rows.fnBucketStepsRow.laid w) (fun _ _ _ hh h => h.of_heap hh) own started (by kernel_rfl) Tryd.func4
    (ChangeSpec.witness_at (enc := enc) (C := Tryd.checked) (os := os) (X := fun w _ => laidMetH Tryd.prog Rows.fnBucketStepsRow.laid w) false (laidWorld os) #[.slice none 0 0] 8 rfl (by kernel_rfl) (by kernel_rfl) (by kernel_rfl) (by kernel_rfl) (by kernel_rfl) (laidWorld_met os _)) ?_
  intro W base args ds gs before hval0 hW hcnd hsz0 hL _
  have hval : ∀ (j : Nat) t v, Tryd.f4.params[j]? = some t → args[j]? = some v → Value.okWide Tryd.prog W .any base t v := hval0
  have hW' := hW
  obtain ⟨p, q, hA0, hV, rfl, hfz, hnd⟩ := hW
  have hA : DataW.TrodAll enc Tryd.prog W 0 (fun _ => true) true Tryd.f4.params.toList args.toList ds p := hA0
  rw [Tryd.params4] at hA hval
  obtain ⟨v0, vs0, d0, ds0, p0, q0, hargs, rfl, rfl, h0, r0⟩ := trodAll_cons hA
  obtain ⟨rfl, rfl, rfl⟩ := trodAll_nil r0
  obtain rfl : args = #[v0] := by cases args; simp_all
  obtain ⟨rfl, rfl⟩ := trodVars_none hV
  have k0 := h0
  have lt0 : ∀ x ∈ p0, x.block < W.heap.size := by obtain ⟨m, hm⟩ := k0; exact DataW.trod_lt m _ _ _ hm
  obtain ⟨a0, len0, cap0, rfl⟩ := okWide_slice Tryd.underlying22 (hval 0 22 v0 rfl rfl)
  obtain ⟨l0, rfl, hc0, hr0, m0, w0⟩ := Rd.slice_in (d := k28) Tryd.underlying22 (by kernel_rfl) (Rd.ok_struct Tryd.underlying28 (by kernel_rfl) (Rd.okf_cons (n := 1) rfl (by kernel_rfl) (Rd.ok_int Tryd.underlying3) (Rd.okf_cons (n := 1) rfl (by kernel_rfl) (Rd.ok_string Tryd.underlying9) (Rd.okf_cons (n := 1) rfl (by kernel_rfl) (Rd.ok_bool Tryd.underlying4) (Rd.okf_cons (n := 1) rfl (by kernel_rfl) (Rd.ok_bool Tryd.underlying4) (Rd.okf_cons (n := 1) rfl (by kernel_rfl) (Rd.ok_bool Tryd.underlying4) (Rd.okf_one (n := 1) rfl (by kernel_rfl) (Rd.ok_bool Tryd.underlying4))))))) (fun x : S28 => (x.f0, x.f1, x.f2, x.f3, x.f4, x.f5)) (fun x => ⟨x.1, x.2.1, x.2.2.1, x.2.2.2.1, x.2.2.2.2.1, x.2.2.2.2.2⟩) (fun _ => rfl)) h0
  clear hA0 hval0 hsz0
  refine (bsteps_any a0 cap0 l0 W (laidE_of hL) hr0 hc0).mono fun e W' ⟨he, bel⟩ => ?_
  subst he
  exact ⟨_, rfl, _, _, _, [], _, [], hW', trodAll_mk1 (shut_bool Tryd.underlying4 _), (trodAll_cons_mk (Below.trod laidOut (by kernel_rfl) (of_decide_eq_true (by kernel_rfl)) k0 bel lt0) trodAll_mk0), rfl, bel.frame _, fun h => by cases h⟩
theorem over : Rows.FnBucketStepsSaid :=
  OpenClaim.holds_of_wide 4 Tryd.f4 rfl rfl rfl rfl rfl rfl rfl ⟨rfl, rfl, rfl, rfl, rfl⟩ rfl rfl rfl rfl rfl (by kernel_rfl) Tryd.func4 (by kernel_rfl)
    (of_decide_eq_true (by kernel_rfl)) (by unfold Func.isWrapper; first | (rw [if_pos (by decide +kernel)]; kernel_rfl) | (rw [if_neg (by decide +kernel)]; exact ⟨rfl, rfl⟩))
    (fun os started H enc _ => lifted os started H enc)
theorem card : Rows.FnBucketStepsCardSaid :=
  Claim7.holds_tied_plain_at .later [] [.sentinel] true Rows.fnBucketStepsCard.stood.harness true
    over (fun _ h => by cases h) (by kernel_rfl) (fun _ h => by cases h) fnBucketSteps_row_tie rfl ⟨rfl, rfl⟩ (by kernel_rfl) rfl
    (fun f fn hf hfn => by
      obtain rfl : f = 4 := Option.some.inj ((show Tryd.prog.funcNamed Rows.fnBucketStepsRow.func = some 4 by kernel_rfl).symm.trans hf) |>.symm
      obtain rfl : fn = Tryd.f4 := (Option.some.inj (Tryd.func4.symm.trans hfn)).symm
      exact ⟨by kernel_rfl, fun j t ht => by
        rw [Tryd.params4] at ht
        have h3 : t = 22 := by
          rcases j with _ | j
          · simpa using ht.symm
          · simp at ht
        subst h3
        exact (show Tryd.prog.wantsStandIn 22 = false by kernel_rfl)⟩)
    (by kernel_rfl)
#print axioms card
end Go.Proofs.YtcomnkbkkpeilaaDoor.fnBucketSteps
namespace Go.Proofs.YtcomnkbkkpeilaaDoor
/-- The card, under a short name, for the claim. -/
theorem fnBucketSteps_holds : Rows.FnBucketStepsCardSaid := fnBucketSteps.card
end Go.Proofs.YtcomnkbkkpeilaaDoor
