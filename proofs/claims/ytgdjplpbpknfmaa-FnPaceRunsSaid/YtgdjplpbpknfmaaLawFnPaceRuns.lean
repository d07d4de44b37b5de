-- Written by a program of this session.
import Derived.Test.YtgdjplpbpknfmaaRows
import Derived.Test.YtgdjplpbpknfmaaPRx3
import Derived.Test.YtgdjplpbpknfmaaPureFnPaceRuns
import Derived.Test.YtgdjplpbpknfmaaRd
import Derived.WalkKit
import Derived.ProofKit
import Derived.OpenShut
import Derived.ShutString
import Derived.ChangeOld
import Derived.Below
import Derived.SizedLaws
namespace Go.Proofs.Ytgdjplpbpknfmaa.fnPaceRuns
open Go.ChangeShapes Go.WideShapes Go.ChangeAt Go.RowKit Go.Proofs.YtgdjplpbpknfmaaW.PrintWords Go.Proofs.Ytgdjplpbpknfmaa.PR
open Go.ChangeMaps (open_string shut_string)
theorem own : ownKnob Try.prog.godebug = none := by kernel_rfl
theorem laidOut : laidOutB Try.prog = true := by kernel_rfl
set_option maxRecDepth 100000 in
theorem lifted (os : Os) (started : os.Started) (H : Type) (enc : TypeId × Value → H) :
    ReturnsInHanded {} Try.checked os 6 .any (Rows.fnPaceRunsSpec.pre6 enc Try.prog Try.f6 Rows.fnPaceRunsRow.domain false) (Rows.fnPaceRunsSpec.post enc Try.prog Try.f6 false true false false) := by
  refine returnsInHanded_of_change_sized (C := Try.checked) own started (by kernel_rfl) Try.func6
    (ChangeSpec.witness6 (enc := enc) (C := Try.checked) false ⟨#[], #[.agg #[.int .i64 0, .int .i64 0, .int .i64 0, .int .i64 0], .bool false, .int .i64 0, .slice none 0 0, .slice none 0 0], []⟩ 8 (by kernel_rfl) (by kernel_rfl) (by kernel_rfl) (by kernel_rfl)) ?_
  intro W base args ds gs before hval0 hW hcnd hsz0 _
  have hsz : (DataW.weightsEach Try.prog (Try.f6.params.toList ++ Rows.fnPaceRunsSpec.plain.varTypes Try.prog) (ds ++ gs)).all (· ≤ reachBytes) = true := hsz0
  have hval : ∀ (j : Nat) t v, Try.f6.params[j]? = some t → args[j]? = some v → Value.okWide Try.prog W .any base t v := hval0
  have hW' := hW
  obtain ⟨p, q, hA0, hV, rfl, hfz, hnd⟩ := hW
  have hA : DataW.TrodAll enc Try.prog W 0 (fun _ => true) true Try.f6.params.toList args.toList ds p := hA0
  rw [Try.params6] at hA hval hsz
  obtain ⟨v0, vs0, d0, ds0, p0, q0, hargs, rfl, rfl, h0, r0⟩ := trodAll_cons hA
  obtain ⟨v1, vs1, d1, ds1, p1, q1, rfl, rfl, rfl, h1, r1⟩ := trodAll_cons r0
  obtain ⟨v2, vs2, d2, ds2, p2, q2, rfl, rfl, rfl, h2, r2⟩ := trodAll_cons r1
  obtain ⟨v3, vs3, d3, ds3, p3, q3, rfl, rfl, rfl, h3, r3⟩ := trodAll_cons r2
  obtain ⟨v4, vs4, d4, ds4, p4, q4, rfl, rfl, rfl, h4, r4⟩ := trodAll_cons r3
  obtain ⟨rfl, rfl, rfl⟩ := trodAll_nil r4
  obtain rfl : args = #[v0, v1, v2, v3, v4] := by cases args; simp_all
  obtain ⟨rfl, rfl⟩ := trodVars_none hV
  have k0 := h0
  have lt0 : ∀ x ∈ p0, x.block < W.heap.size := by obtain ⟨m, hm⟩ := k0; exact DataW.trod_lt m _ _ _ hm
  obtain ⟨cs0, y0, rfl, hK0, w0⟩ := Rd.struct_in Try.underlying26 (Rd.ok_struct Try.underlying26 (by kernel_rfl) (Rd.okf_cons (n := 1) rfl (by kernel_rfl) (Rd.ok_int Try.underlying3) (Rd.okf_cons (n := 1) rfl (by kernel_rfl) (Rd.ok_int Try.underlying3) (Rd.okf_cons (n := 1) rfl (by kernel_rfl) (Rd.ok_int Try.underlying3) (Rd.okf_one (n := 1) rfl (by kernel_rfl) (Rd.ok_int Try.underlying3))))) (fun x : S26 => (x.f0, x.f1, x.f2, x.f3)) (fun x => ⟨x.1, x.2.1, x.2.2.1, x.2.2.2⟩) (fun _ => rfl)) (hval 0 26 v0 rfl rfl) h0
  obtain rfl := Rd.arr_of (k26_open hK0)
  obtain ⟨a1, rfl, rfl, rfl⟩ := open_bool Try.underlying4 (hval 1 4 v1 rfl rfl) h1
  obtain ⟨a2, rfl, rfl, rfl, w2⟩ := open_int Try.underlying3 (hval 2 3 v2 rfl rfl) h2
  have k3 := h3
  have lt3 : ∀ x ∈ p3, x.block < W.heap.size := by obtain ⟨m, hm⟩ := k3; exact DataW.trod_lt m _ _ _ hm
  obtain ⟨a3, len3, cap3, rfl⟩ := okWide_slice Try.underlying33 (hval 3 33 v3 rfl rfl)
  obtain ⟨l3, rfl, hc3, hr3, m3, w3⟩ := Rd.slice_in (d := Kd.bool) Try.underlying33 (by kernel_rfl) (Rd.ok_bool Try.underlying4) h3
  have k4 := h4
  have lt4 : ∀ x ∈ p4, x.block < W.heap.size := by obtain ⟨m, hm⟩ := k4; exact DataW.trod_lt m _ _ _ hm
  obtain ⟨a4, len4, cap4, rfl⟩ := okWide_slice Try.underlying34 (hval 4 34 v4 rfl rfl)
  obtain ⟨l4, rfl, hc4, hr4, m4, w4⟩ := Rd.slice_in (d := (Kd.int .i64)) Try.underlying34 (by kernel_rfl) (Rd.ok_int Try.underlying3) h4
  clear hA0 hval0 hsz0
  refine (PR.laws_FnPaceRuns.walk Pure.FnPaceRuns W y0.f0 y0.f1 y0.f2 y0.f3 a1 a2 a3 cap3 l3 hr3 hc3 a4 cap4 l4 hr4 hc4 w0 w2 m3 w3 m4 w4).mono fun e W' ⟨he, bel⟩ => ?_
  subst he
  exact ⟨_, rfl, _, _, _, [], _, [], hW', trodAll_mk1 (shut_bool Try.underlying4 _), (trodAll_cons_mk (Below.trod laidOut (by kernel_rfl) (of_decide_eq_true (by kernel_rfl)) k0 bel lt0) (trodAll_cons_mk (shut_bool Try.underlying4 _) (trodAll_cons_mk (shut_int Try.underlying3 w2) (trodAll_cons_mk (Below.trod laidOut (by kernel_rfl) (of_decide_eq_true (by kernel_rfl)) k3 bel lt3) (trodAll_cons_mk (Below.trod laidOut (by kernel_rfl) (of_decide_eq_true (by kernel_rfl)) k4 bel lt4) trodAll_mk0))))), rfl, bel.frame _, fun h => by cases h⟩
theorem over : Rows.fnPaceRunsRow.holds Try.pinned (OpenSpec.ofChange Rows.fnPaceRunsSpec) :=
  OpenClaim.holds_of_wide 6 Try.f6 rfl rfl rfl rfl rfl rfl rfl ⟨rfl, rfl, rfl, rfl, rfl⟩ rfl rfl rfl rfl rfl (by kernel_rfl) Try.func6 (by kernel_rfl)
    (of_decide_eq_true (by kernel_rfl)) (by unfold Func.isWrapper; first | (rw [if_pos (by decide +kernel)]; kernel_rfl) | (rw [if_neg (by decide +kernel)]; exact ⟨rfl, rfl⟩))
    (fun os started H enc _ => lifted os started H enc)
theorem proved : Rows.FnPaceRunsSaid := over
#print axioms proved
end Go.Proofs.Ytgdjplpbpknfmaa.fnPaceRuns
namespace Go.Proofs.Ytgdjplpbpknfmaa
/-- The row, under a short name, for the claim. -/
theorem fnPaceRuns_holds : Rows.FnPaceRunsSaid := fnPaceRuns.proved
end Go.Proofs.Ytgdjplpbpknfmaa
