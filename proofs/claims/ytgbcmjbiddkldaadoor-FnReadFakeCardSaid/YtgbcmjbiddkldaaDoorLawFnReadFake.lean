/- FnReadFake: what a fake seeker reads and where it may seek, for all parts and steps, where the variable io.EOF reads as it is laid (tied card). -/
import Derived.Test.YtgbcmjbiddkldaaDoorRows
import Derived.Test.YtgbcmjbiddkldaaDoorCards
import Derived.Test.YtgbcmjbiddkldaaDoorTie
import Derived.Test.YtgbcmjbiddkldaaDoorLaid
import Derived.Test.YtgbcmjbiddkldaaDoorFa
import Derived.Test.YtgbcmjbiddkldaaDoorRd
import Derived.WalkKit
import Derived.ProofKit
import Derived.OpenShut
import Derived.ShutString
import Derived.ChangeOld
import Derived.ChangeSame
import Derived.ChangeVars
import Derived.JoinedOf
import Derived.RowKit
import Derived.RowKitTokens
import Derived.LaidLaws
import Derived.Stop.Joined
import Derived.Below
import Derived.SizedLaws
import Derived.SevenTiedAt
namespace Go.Proofs.YtgbcmjbiddkldaaDoor.fnReadFake
open Go.ChangeShapes Go.WideShapes Go.ChangeAt Go.RowKit Go.Proofs.YtgbcmjbiddkldaaDoorW.PrintWords Go.Proofs.YtgbcmjbiddkldaaDoor.PR Go.Proofs.YtgbcmjbiddkldaaDoor.Given
open Go.ChangeMaps (open_string shut_string)
set_option linter.unusedVariables false
theorem own : ownKnob Tryd.prog.godebug = none := by kernel_rfl
theorem laidOut : laidOutB Tryd.prog = true := by kernel_rfl
set_option maxRecDepth 100000 in
theorem lifted (os : Os) (started : os.Started) (H : Type) (enc : TypeId × Value → H) :
    ReturnsInHanded {} Tryd.checked os 5 .any (fun w args => (Rows.fnReadFakeSpec.pre enc Tryd.prog Tryd.f5 [] false w args ∧ laidMetH Tryd.prog Rows.fnReadFakeRow.laid w) ∧ sizedMet enc Tryd.prog Tryd.f5 (OpenSpec.ofChange Rows.fnReadFakeSpec) false w args)
      (Rows.fnReadFakeSpec.post enc Tryd.prog Tryd.f5 false true false false) := by
  refine returnsInHanded_of_change_and (C := Tryd.checked) (X := fun w _ => laidMetH Tryd.prog Rows.fnReadFakeRow.laid w) (fun _ _ _ hh h => h.of_heap hh) own started (by kernel_rfl) Tryd.func5
    (ChangeSpec.witness_at (enc := enc) (C := Tryd.checked) (os := os) (X := fun w _ => laidMetH Tryd.prog Rows.fnReadFakeRow.laid w) false (laidWorld os) #[.slice none 0 0, .bool false, .int .i64 0, .slice none 0 0] 8 rfl (by kernel_rfl) (by kernel_rfl) (by kernel_rfl) (by kernel_rfl) (by kernel_rfl) (laidWorld_met os _)) ?_
  intro W base args ds gs before hval0 hW hcnd hsz0 hL _
  have hsz : (DataW.weightsEach Tryd.prog (Tryd.f5.params.toList ++ Rows.fnReadFakeSpec.plain.varTypes Tryd.prog) (ds ++ gs)).all (· ≤ reachBytes) = true := hsz0
  have hval : ∀ (j : Nat) t v, Tryd.f5.params[j]? = some t → args[j]? = some v → Value.okWide Tryd.prog W .any base t v := hval0
  have hW' := hW
  obtain ⟨p, q, hA0, hV, rfl, hfz, hnd⟩ := hW
  have hA : DataW.TrodAll enc Tryd.prog W 0 (fun _ => true) true Tryd.f5.params.toList args.toList ds p := hA0
  rw [Tryd.params5] at hA hval hsz
  obtain ⟨v0, vs0, d0, ds0, p0, q0, hargs, rfl, rfl, h0, r0⟩ := trodAll_cons hA
  obtain ⟨v1, vs1, d1, ds1, p1, q1, rfl, rfl, rfl, h1, r1⟩ := trodAll_cons r0
  obtain ⟨v2, vs2, d2, ds2, p2, q2, rfl, rfl, rfl, h2, r2⟩ := trodAll_cons r1
  obtain ⟨v3, vs3, d3, ds3, p3, q3, rfl, rfl, rfl, h3, r3⟩ := trodAll_cons r2
  obtain ⟨rfl, rfl, rfl⟩ := trodAll_nil r3
  obtain rfl : args = #[v0, v1, v2, v3] := by cases args; simp_all
  obtain ⟨rfl, rfl⟩ := trodVars_none hV
  have k0 := h0
  have lt0 : ∀ x ∈ p0, x.block < W.heap.size := by obtain ⟨m, hm⟩ := k0; exact DataW.trod_lt m _ _ _ hm
  obtain ⟨a0, len0, cap0, rfl⟩ := okWide_slice Tryd.underlying22 (hval 0 22 v0 rfl rfl)
  obtain ⟨l0, rfl, hc0, hr0, m0, w0⟩ := Rd.slice_in (d := (Kd.slice 5 (Kd.int .u8))) Tryd.underlying22 (by kernel_rfl) (Rd.ok_slice Tryd.underlying29 (by kernel_rfl) (Rd.ok_int Tryd.underlying5)) h0
  obtain ⟨a1, rfl, rfl, rfl⟩ := open_bool Tryd.underlying4 (hval 1 4 v1 rfl rfl) h1
  obtain ⟨a2, rfl, rfl, rfl, w2⟩ := open_int Tryd.underlying3 (hval 2 3 v2 rfl rfl) h2
  have k3 := h3
  have lt3 : ∀ x ∈ p3, x.block < W.heap.size := by obtain ⟨m, hm⟩ := k3; exact DataW.trod_lt m _ _ _ hm
  obtain ⟨a3, len3, cap3, rfl⟩ := okWide_slice Tryd.underlying23 (hval 3 23 v3 rfl rfl)
  obtain ⟨l3, rfl, hc3, hr3, m3, w3⟩ := Rd.slice_in (d := k32) Tryd.underlying23 (by kernel_rfl) (Rd.ok_struct Tryd.underlying32 (by kernel_rfl) (Rd.okf_cons (n := 1) rfl (by kernel_rfl) (Rd.ok_int Tryd.underlying3) (Rd.okf_cons (n := 1) rfl (by kernel_rfl) (Rd.ok_int Tryd.underlying3) (Rd.okf_one (n := 1) rfl (by kernel_rfl) (Rd.ok_int Tryd.underlying3)))) (fun x : S32 => (x.f0, x.f1, x.f2)) (fun x => ⟨x.1, x.2.1, x.2.2⟩) (fun _ => rfl)) h3
  obtain ⟨aE, hLE⟩ := laidE_of hL
  clear hA0 hval0 hsz0
  refine (fake_law W aE W.heap.size a0 cap0 l0 a1 a2 a3 cap3 l3 hLE hr0 hc0 hr3 hc3).mono fun e W' ⟨he, bel⟩ => ?_
  subst he
  exact ⟨_, rfl, _, _, _, [], _, [], hW', trodAll_mk1 (shut_bool Tryd.underlying4 _), (trodAll_cons_mk (Below.trod laidOut (by kernel_rfl) (of_decide_eq_true (by kernel_rfl)) k0 bel lt0) (trodAll_cons_mk (shut_bool Tryd.underlying4 _) (trodAll_cons_mk (shut_int Tryd.underlying3 w2) (trodAll_cons_mk (Below.trod laidOut (by kernel_rfl) (of_decide_eq_true (by kernel_rfl)) k3 bel lt3) trodAll_mk0)))), rfl, bel.frame _, fun h => by cases h⟩
theorem over : Rows.FnReadFakeSaid :=
  OpenClaim.holds_of_wide 5 Tryd.f5 rfl rfl rfl rfl rfl rfl rfl ⟨rfl, rfl, rfl, rfl, rfl⟩ rfl rfl rfl rfl rfl (by kernel_rfl) Tryd.func5 (by kernel_rfl)
    (of_decide_eq_true (by kernel_rfl)) (by unfold Func.isWrapper; first | (rw [if_pos (by decide +kernel)]; kernel_rfl) | (rw [if_neg (by decide +kernel)]; exact ⟨rfl, rfl⟩))
    (fun os started H enc _ => lifted os started H enc)
theorem card : Rows.FnReadFakeCardSaid :=
  Claim7.holds_tied_plain_at .later [] [.sentinel] true Rows.fnReadFakeCard.stood.harness true
    over (fun _ h => by cases h) (by kernel_rfl) (fun _ h => by cases h) fnReadFake_row_tie rfl ⟨rfl, rfl⟩ (by kernel_rfl) rfl
    (fun f fn hf hfn => by
      obtain rfl : f = 5 := Option.some.inj ((show Tryd.prog.funcNamed Rows.fnReadFakeRow.func = some 5 by kernel_rfl).symm.trans hf) |>.symm
      obtain rfl : fn = Tryd.f5 := (Option.some.inj (Tryd.func5.symm.trans hfn)).symm
      exact ⟨by kernel_rfl, fun j t ht => by
        rw [Tryd.params5] at ht
        rcases j with _ | j
        · obtain rfl : t = 22 := by simpa using ht.symm
          exact (show Tryd.prog.wantsStandIn 22 = false by kernel_rfl)
        · rcases j with _ | j
          · obtain rfl : t = 4 := by simpa using ht.symm
            exact (show Tryd.prog.wantsStandIn 4 = false by kernel_rfl)
          · rcases j with _ | j
            · obtain rfl : t = 3 := by simpa using ht.symm
              exact (show Tryd.prog.wantsStandIn 3 = false by kernel_rfl)
            · rcases j with _ | j
              · obtain rfl : t = 23 := by simpa using ht.symm
                exact (show Tryd.prog.wantsStandIn 23 = false by kernel_rfl)
              · simp at ht⟩)
    (by kernel_rfl)
#print axioms card
end Go.Proofs.YtgbcmjbiddkldaaDoor.fnReadFake
namespace Go.Proofs.YtgbcmjbiddkldaaDoor
/-- The card, under a short name, for the claim. -/
theorem fnReadFake_holds : Rows.FnReadFakeCardSaid := fnReadFake.card
end Go.Proofs.YtgbcmjbiddkldaaDoor
