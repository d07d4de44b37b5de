-- Written by a program of this session.
import Derived.Test.YtmkhkkfliecfdaaRows
import Derived.Test.YtmkhkkfliecfdaaPUx5
import Derived.Test.YtmkhkkfliecfdaaPureFnRangesTwo
import Derived.Test.YtmkhkkfliecfdaaRd
import Derived.WalkKit
import Derived.ProofKit
import Derived.OpenShut
import Derived.ShutString
import Derived.ChangeOld
import Derived.Below
import Derived.SizedLaws
namespace Go.Proofs.Ytmkhkkfliecfdaa.fnRangesTwo
open Go.ChangeShapes Go.WideShapes Go.ChangeAt Go.RowKit Go.Proofs.YtmkhkkfliecfdaaW.PrintWords Go.Proofs.Ytmkhkkfliecfdaa.PU Go.Proofs.Ytmkhkkfliecfdaa.PT
open Go.ChangeMaps (open_string shut_string)
theorem own : ownKnob Try.prog.godebug = none := by kernel_rfl
theorem laidOut : laidOutB Try.prog = true := by kernel_rfl
set_option maxRecDepth 100000 in
theorem lifted (os : Os) (started : os.Started) (H : Type) (enc : TypeId × Value → H) :
    ReturnsInHanded {} Try.checked os 9 .any (Rows.fnRangesTwoSpec.pre6 enc Try.prog Try.f9 Rows.fnRangesTwoRow.domain false) (Rows.fnRangesTwoSpec.post enc Try.prog Try.f9 false true false false) := by
  refine returnsInHanded_of_change_sized (C := Try.checked) own started (by kernel_rfl) Try.func9
    (ChangeSpec.witness6 (enc := enc) (C := Try.checked) false ⟨#[], #[.slice none 0 0, .slice none 0 0], []⟩ 8 (by kernel_rfl) (by kernel_rfl) (by kernel_rfl) (by kernel_rfl)) ?_
  intro W base args ds gs before hval0 hW hcnd hsz0 _
  have hsz : (DataW.weightsEach Try.prog (Try.f9.params.toList ++ Rows.fnRangesTwoSpec.plain.varTypes Try.prog) (ds ++ gs)).all (· ≤ reachBytes) = true := hsz0
  have hval : ∀ (j : Nat) t v, Try.f9.params[j]? = some t → args[j]? = some v → Value.okWide Try.prog W .any base t v := hval0
  have hW' := hW
  obtain ⟨p, q, hA0, hV, rfl, hfz, hnd⟩ := hW
  have hA : DataW.TrodAll enc Try.prog W 0 (fun _ => true) true Try.f9.params.toList args.toList ds p := hA0
  rw [Try.params9] at hA hval hsz
  obtain ⟨v0, vs0, d0, ds0, p0, q0, hargs, rfl, rfl, h0, r0⟩ := trodAll_cons hA
  obtain ⟨v1, vs1, d1, ds1, p1, q1, rfl, rfl, rfl, h1, r1⟩ := trodAll_cons r0
  obtain ⟨rfl, rfl, rfl⟩ := trodAll_nil r1
  obtain rfl : args = #[v0, v1] := by cases args; simp_all
  obtain ⟨rfl, rfl⟩ := trodVars_none hV
  have k0 := h0
  have lt0 : ∀ x ∈ p0, x.block < W.heap.size := by obtain ⟨m, hm⟩ := k0; exact DataW.trod_lt m _ _ _ hm
  obtain ⟨a0, len0, cap0, rfl⟩ := okWide_slice Try.underlying22 (hval 0 22 v0 rfl rfl)
  obtain ⟨l0, rfl, hc0, hr0, m0, w0⟩ := Rd.slice_in (d := k24) Try.underlying22 (by kernel_rfl) (Rd.ok_struct Try.underlying24 (by kernel_rfl) (Rd.okf_cons (n := 1) rfl (by kernel_rfl) (Rd.ok_int Try.underlying3) (Rd.okf_one (n := 1) rfl (by kernel_rfl) (Rd.ok_int Try.underlying3))) (fun x : S24 => (x.f0, x.f1)) (fun x => ⟨x.1, x.2⟩) (fun _ => rfl)) h0
  have k1 := h1
  have lt1 : ∀ x ∈ p1, x.block < W.heap.size := by obtain ⟨m, hm⟩ := k1; exact DataW.trod_lt m _ _ _ hm
  obtain ⟨a1, len1, cap1, rfl⟩ := okWide_slice Try.underlying22 (hval 1 22 v1 rfl rfl)
  obtain ⟨l1, rfl, hc1, hr1, m1, w1⟩ := Rd.slice_in (d := k24) Try.underlying22 (by kernel_rfl) (Rd.ok_struct Try.underlying24 (by kernel_rfl) (Rd.okf_cons (n := 1) rfl (by kernel_rfl) (Rd.ok_int Try.underlying3) (Rd.okf_one (n := 1) rfl (by kernel_rfl) (Rd.ok_int Try.underlying3))) (fun x : S24 => (x.f0, x.f1)) (fun x => ⟨x.1, x.2⟩) (fun _ => rfl)) h1
  clear hA0 hval0 hsz0
  refine (PU.laws_FnRangesTwo.walk Pure.FnRangesTwo W a0 cap0 l0 hr0 hc0 a1 cap1 l1 hr1 hc1 m0 w0 m1 w1).mono fun e W' ⟨he, bel⟩ => ?_
  subst he
  exact ⟨_, rfl, _, _, _, [], _, [], hW', trodAll_mk1 (shut_bool Try.underlying4 _), (trodAll_cons_mk (Below.trod laidOut (by kernel_rfl) (of_decide_eq_true (by kernel_rfl)) k0 bel lt0) (trodAll_cons_mk (Below.trod laidOut (by kernel_rfl) (of_decide_eq_true (by kernel_rfl)) k1 bel lt1) trodAll_mk0)), rfl, bel.frame _, fun h => by cases h⟩
theorem over : Rows.fnRangesTwoRow.holds Try.pinned (OpenSpec.ofChange Rows.fnRangesTwoSpec) :=
  OpenClaim.holds_of_wide 9 Try.f9 rfl rfl rfl rfl rfl rfl rfl ⟨rfl, rfl, rfl, rfl, rfl⟩ rfl rfl rfl rfl rfl (by kernel_rfl) Try.func9 (by kernel_rfl)
    (of_decide_eq_true (by kernel_rfl)) (by unfold Func.isWrapper; first | (rw [if_pos (by decide +kernel)]; kernel_rfl) | (rw [if_neg (by decide +kernel)]; exact ⟨rfl, rfl⟩))
    (fun os started H enc _ => lifted os started H enc)
theorem proved : Rows.FnRangesTwoSaid := over
#print axioms proved
end Go.Proofs.Ytmkhkkfliecfdaa.fnRangesTwo
namespace Go.Proofs.Ytmkhkkfliecfdaa
/-- The row, under a short name, for the claim. -/
theorem fnRangesTwo_holds : Rows.FnRangesTwoSaid := fnRangesTwo.proved
end Go.Proofs.Ytmkhkkfliecfdaa
