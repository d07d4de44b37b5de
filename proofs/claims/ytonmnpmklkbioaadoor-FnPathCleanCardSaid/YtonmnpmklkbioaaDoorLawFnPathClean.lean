/- LAW: laws.FnPathClean returns true at every mask and every list of names; the arguments read as before. Condition: the listed variables read as the program's text lays them (two tables of unicode/utf8, the error strconv.ErrSyntax among them). -/
import Derived.Test.YtonmnpmklkbioaaDoorRows
import Derived.Test.YtonmnpmklkbioaaDoorCards
import Derived.Test.YtonmnpmklkbioaaDoorTie
import Derived.Test.YtonmnpmklkbioaaDoorGm
import Derived.Test.YtonmnpmklkbioaaDoorGr
import Derived.Test.YtonmnpmklkbioaaDoorRd
import Derived.WalkKit
import Derived.ProofKit
import Derived.OpenShut
import Derived.ShutString
import Derived.ChangeOld
import Derived.ChangeSame
import Derived.ChangeVars
import Derived.JoinedOf
import Derived.RowKit
import Derived.RowKitTokens
import Derived.LaidLaws
import Derived.Stop.Joined
import Derived.Below
import Derived.SizedLaws
import Derived.SevenTiedAt
import Derived.Lay
import Derived.LaidOnce
namespace Go.Proofs.YtonmnpmklkbioaaDoor.fnPathClean
open Go.ChangeShapes Go.WideShapes Go.ChangeAt Go.RowKit Go.Proofs.YtonmnpmklkbioaaDoorW.PrintWords 
open Go.ChangeMaps (open_string shut_string)
set_option linter.unusedVariables false
theorem own : ownKnob Tryd.prog.godebug = none := by kernel_rfl
theorem laidOut : laidOutB Tryd.prog = true := by kernel_rfl
set_option maxRecDepth 100000 in
theorem lifted (os : Os) (started : os.Started) (H : Type) (enc : TypeId × Value → H) :
    ReturnsInHanded {} Tryd.checked os 12 .any (fun w args => (Rows.fnPathCleanSpec.pre enc Tryd.prog Tryd.f12 [] false w args ∧ laidMetH Tryd.prog Rows.fnPathCleanRow.laid w) ∧ sizedMet enc Tryd.prog Tryd.f12 (OpenSpec.ofChange Rows.fnPathCleanSpec) false w args)
      (Rows.fnPathCleanSpec.post enc Tryd.prog Tryd.f12 false true false false) := by
  refine returnsInHanded_of_change_and (C := Tryd.checked) (X := fun w _ => laidMetH Tryd.prog Rows.fnPathCleanRow.laid w) (fun _ _ _ hh h => h.of_heap hh) own started (by kernel_rfl) Tryd.func12
    (ChangeSpec.witness_shaped (enc := enc) (C := Tryd.checked) (os := os) (X := fun w _ => laidMetH Tryd.prog Rows.fnPathCleanRow.laid w) false (World.laidAll Tryd.prog os Rows.fnPathCleanRow.laid) #[.int .u64 0, .slice none 0 0] 8 (World.laidAll_os _ _ _) (World.shaped_of_ZipB (by kernel_rfl) (by kernel_rfl)) (by kernel_rfl) (by kernel_rfl) (by kernel_rfl) (by rw [MakeChecks.laidMetH_plain _ _ _ (by kernel_rfl)]; exact laidMet_laidAll _ (by kernel_rfl) (by kernel_rfl))) ?_
  intro W base args ds gs before hval0 hW hcnd hsz0 hL _
  have hsz : (DataW.weightsEach Tryd.prog (Tryd.f12.params.toList ++ Rows.fnPathCleanSpec.plain.varTypes Tryd.prog) (ds ++ gs)).all (· ≤ reachBytes) = true := hsz0
  have hval : ∀ (j : Nat) t v, Tryd.f12.params[j]? = some t → args[j]? = some v → Value.okWide Tryd.prog W .any base t v := hval0
  have hW' := hW
  obtain ⟨p, q, hA0, hV, rfl, hfz, hnd⟩ := hW
  have hA : DataW.TrodAll enc Tryd.prog W 0 (fun _ => true) true Tryd.f12.params.toList args.toList ds p := hA0
  rw [Tryd.params12] at hA hval hsz
  obtain ⟨v0, vs0, d0, ds0, p0, q0, hargs, rfl, rfl, h0, r0⟩ := trodAll_cons hA
  obtain ⟨v1, vs1, d1, ds1, p1, q1, rfl, rfl, rfl, h1, r1⟩ := trodAll_cons r0
  obtain ⟨rfl, rfl, rfl⟩ := trodAll_nil r1
  obtain rfl : args = #[v0, v1] := by cases args; simp_all
  obtain ⟨rfl, rfl⟩ := trodVars_none hV
  obtain ⟨a0, rfl, rfl, rfl, w0⟩ := open_int Tryd.underlying22 (hval 0 22 v0 rfl rfl) h0
  have k1 := h1
  have lt1 : ∀ x ∈ p1, x.block < W.heap.size := by obtain ⟨m, hm⟩ := k1; exact DataW.trod_lt m _ _ _ hm
  obtain ⟨a1, len1, cap1, rfl⟩ := okWide_slice Tryd.underlying40 (hval 1 40 v1 rfl rfl)
  obtain ⟨l1, rfl, hc1, hr1, m1, w1⟩ := Rd.slice_in (d := Kd.string) Tryd.underlying40 (by kernel_rfl) (Rd.ok_string Tryd.underlying9) h1
  rw [MakeChecks.laidMetH_plain _ _ _ (by kernel_rfl)] at hL
  have hTb : Given.Wo W := Given.wo_of hL (by simp [Rows.fnPathCleanRow]) (by simp [Rows.fnPathCleanRow]) (by simp [Rows.fnPathCleanRow])
  clear hA0 hval0 hsz0
  refine (Given.law12 a0 a1 cap1 l1 W hr1 hc1 hTb).mono fun e W' ⟨he, bel⟩ => ?_
  subst he
  exact ⟨_, rfl, _, _, _, [], _, [], hW', trodAll_mk1 (shut_bool Tryd.underlying4 _), (trodAll_cons_mk (shut_int Tryd.underlying22 w0) (trodAll_cons_mk (Below.trod laidOut (by kernel_rfl) (of_decide_eq_true (by kernel_rfl)) k1 bel lt1) trodAll_mk0)), rfl, bel.frame _, fun h => by cases h⟩
theorem over : Rows.FnPathCleanSaid :=
  OpenClaim.holds_of_wide 12 Tryd.f12 rfl rfl rfl rfl rfl rfl rfl ⟨rfl, rfl, rfl, rfl, rfl⟩ rfl rfl rfl rfl rfl (by kernel_rfl) Tryd.func12 (by kernel_rfl)
    (of_decide_eq_true (by kernel_rfl)) (by unfold Func.isWrapper; first | (rw [if_pos (by decide +kernel)]; kernel_rfl) | (rw [if_neg (by decide +kernel)]; exact ⟨rfl, rfl⟩))
    (fun os started H enc _ => lifted os started H enc)
theorem card : Rows.FnPathCleanCardSaid :=
  Claim7.holds_tied_plain_at .later [] [.data, .data, .data, .data, .sentinel, .sentinel, .sentinel, .pinned] true Rows.fnPathCleanCard.stood.harness true
    over (fun _ h => by cases h) (by kernel_rfl) (fun _ h => by cases h) fnPathClean_row_tie rfl ⟨rfl, rfl⟩ (by kernel_rfl) rfl
    (fun f fn hf hfn => by
      obtain rfl : f = 12 := Option.some.inj ((show Tryd.prog.funcNamed Rows.fnPathCleanRow.func = some 12 by kernel_rfl).symm.trans hf) |>.symm
      obtain rfl : fn = Tryd.f12 := (Option.some.inj (Tryd.func12.symm.trans hfn)).symm
      exact ⟨by kernel_rfl, fun j t ht => by
        rw [Tryd.params12] at ht
        rcases j with _ | j
        · obtain rfl : t = 22 := by simpa using ht.symm
          exact (show Tryd.prog.wantsStandIn 22 = false by kernel_rfl)
        · rcases j with _ | j
          · obtain rfl : t = 40 := by simpa using ht.symm
            exact (show Tryd.prog.wantsStandIn 40 = false by kernel_rfl)
          · simp at ht⟩)
    (by kernel_rfl)
#print axioms card
end Go.Proofs.YtonmnpmklkbioaaDoor.fnPathClean
namespace Go.Proofs.YtonmnpmklkbioaaDoor
/-- The card, under a short name, for the claim. -/
theorem fnPathClean_holds : Rows.FnPathCleanCardSaid := fnPathClean.card
end Go.Proofs.YtonmnpmklkbioaaDoor
