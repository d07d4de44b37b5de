-- Written by a program of this session. -- slim
import Derived.Test.YtmkhkkfliecfdaaPTx20
import Derived.Test.YtmkhkkfliecfdaaPTx22
import Derived.Test.YtmkhkkfliecfdaaPTx37
namespace Go.Proofs.Ytmkhkkfliecfdaa.PT
open Go.RowKit Go.Proofs.YtmkhkkfliecfdaaW.PrintWords Go.Proofs.YtmkhkkfliecfdaaW.PrintLast Go.Proofs.Ytmkhkkfliecfdaa.Given Go.Proofs.Ytmkhkkfliecfdaa.Mm
attribute [local go_sem] mx_go mn_go
set_option linter.unusedVariables false
set_option linter.unusedSimpArgs false

attribute [local go_sem high] idx70
/-! ### spec_RangesWhole: function 26 -/
def spec_RangesWhole.f (k : Nat) (l0 : List (S24)) : Option ((List (S24))) := (spec_rangeMarks.f k l0).bind fun t370 => (if (t370.length : Int) = 0 then (some ([] : List (S24))) else (if 0 < (t370.length : Int) then (if 0 ≤ (wrap64 ((t370.length : Int) - 1)) then (if (wrap64 ((t370.length : Int) - 1)) < (t370.length : Int) then ((spec_RangesCut.f k l0 (rd t370 0) (wrap64 ((rd t370 (wrap64 ((t370.length : Int) - 1))) - (rd t370 0)))).bind fun t375 => (some t375)) else (none)) else (none)) else (none)))
theorem spec_RangesWhole.mono : ∀ a0 k, LeO (spec_RangesWhole.f k a0) (spec_RangesWhole.f (k + 1) a0) := by
 intro a0 k
 unfold spec_RangesWhole.f
 repeat' first
   | (with_reducible exact spec_RangesCut.mono _ _ _ _)
   | (with_reducible exact spec_rangeMarks.mono _ _)
   | (with_reducible exact LeO.refl _)
   | (with_reducible exact LeO.none _)
   | (with_reducible refine LeO.ite ?_ ?_)
   | (with_reducible refine LeO.bind ?_ (fun _ => ?_))
   | exact spec_RangesCut.mono _ _ _ _
   | exact spec_rangeMarks.mono _ _
   | exact LeO.none _
   | refine LeO.ite ?_ ?_
   | refine LeO.bind ?_ (fun _ => ?_)
set_option maxHeartbeats 8000000 in
set_option maxRecDepth 100000 in
theorem spec_RangesWhole.calls (k : Nat) (A0 : Option Addr) (c0 : Nat) (l0 : List (S24)) (r : List (S24)) (w : World) (hr0 : Kd.C k24 w A0 l0.length l0) (hc0 : l0.length ≤ c0) (h : spec_RangesWhole.f k l0 = some r) :
  Calls Try.prog 26 #[.slice A0 l0.length c0] w fun e w' => ∃ v0_ : Value, e = .returned (v0_) ∧ Kd.R k24 24 w' w.heap.size (fun _ => True) v0_ r ∧ Below w.heap.size w w' := by
 have hu24 := Try.underlying24
 have HR0 := Aside0.mk hr0
 have HC0 := Aside0.mk hc0
 clear hr0 hc0
 have HB := Aside0.mk (Below.refl w.heap.size w)
 have H : ((spec_rangeMarks.f k l0).bind fun t370 => (if (t370.length : Int) = 0 then (some ([] : List (S24))) else (if 0 < (t370.length : Int) then (if 0 ≤ (wrap64 ((t370.length : Int) - 1)) then (if (wrap64 ((t370.length : Int) - 1)) < (t370.length : Int) then ((spec_RangesCut.f k l0 (rd t370 0) (wrap64 ((rd t370 (wrap64 ((t370.length : Int) - 1))) - (rd t370 0)))).bind fun t375 => (some t375)) else (none)) else (none)) else (none)))) = some r := h
 clear h
 replace H := Option.bind_eq_some_iff.mp H
 obtain ⟨t370, A20, H⟩ := H
 replace H : (if (t370.length : Int) = 0 then (some ([] : List (S24))) else (if 0 < (t370.length : Int) then (if 0 ≤ (wrap64 ((t370.length : Int) - 1)) then (if (wrap64 ((t370.length : Int) - 1)) < (t370.length : Int) then ((spec_RangesCut.f k l0 (rd t370 0) (wrap64 ((rd t370 (wrap64 ((t370.length : Int) - 1))) - (rd t370 0)))).bind fun t375 => (some t375)) else (none)) else (none)) else (none))) = some r := H
 have A2 := Aside0.mk A20
 clear A20
 by_cases c3 : (t370.length : Int) = 0
 ·rw [if_pos c3] at H
  have c3b0 : ((t370.length : Int) == 0) = true := beq_iff_eq.mpr c3
  have c3b1 : ((t370.length : Int) != 0) = false := bne_eq_false_iff_eq.mpr c3
  clear c3
  obtain rfl := Option.some.inj H
  go_enter Try.func26, Try.ntmps26
  go_wp2_with (first | (go_at_call 36; (with_reducible refine (spec_rangeMarks.calls k _ _ l0 t370 _ ?side1 ?side2 A2.out).mono ?_); (case side1 => repeat (first | exact HR0.out | (with_reducible refine Kd.C_alloc ?_ _) | (with_reducible refine Kd.C_drewN ?_ _) | (with_reducible refine Kd.C_drew ?_))); (case side2 => exact HC0.out); rintro e w4 ⟨v371, rfl, ho0, hb⟩; have n0_ := Aside0.mk (Kd.R_lower ho0 (below_size (by repeat (first | (with_reducible first | exact HB.out | apply below_alloc | apply pw_below_drewN | apply below_drew1) | exact HB.out)))); have n1_ := Aside0.mk (below_step (by repeat (first | (with_reducible first | exact HB.out | apply below_alloc | apply pw_below_drewN | apply below_drew1) | exact HB.out)) hb); clear HB; have HO372 := n0_; have HB := n1_; clear n0_ n1_; (try clear hb); (try clear hb2); (try clear hk); (try clear hi); (try clear ho0); obtain ⟨Ao5, co5, eo5⟩ := Kd.R_slice HO372.out; subst eo5))
  repeat (go_quiet (first | (go_at_call 36; (with_reducible refine (spec_rangeMarks.calls k _ _ l0 t370 _ ?side1 ?side2 A2.out).mono ?_); (case side1 => repeat (first | exact HR0.out | (with_reducible refine Kd.C_alloc ?_ _) | (with_reducible refine Kd.C_drewN ?_ _) | (with_reducible refine Kd.C_drew ?_))); (case side2 => exact HC0.out); rintro e w4 ⟨v371, rfl, ho0, hb⟩; have n0_ := Aside0.mk (Kd.R_lower ho0 (below_size (by repeat (first | (with_reducible first | exact HB.out | apply below_alloc | apply pw_below_drewN | apply below_drew1) | exact HB.out)))); have n1_ := Aside0.mk (below_step (by repeat (first | (with_reducible first | exact HB.out | apply below_alloc | apply pw_below_drewN | apply below_drew1) | exact HB.out)) hb); clear HB; have HO372 := n0_; have HB := n1_; clear n0_ n1_; (try clear hb); (try clear hb2); (try clear hk); (try clear hi); (try clear ho0); obtain ⟨Ao5, co5, eo5⟩ := Kd.R_slice HO372.out; subst eo5)); try go_wp2_with (first | (go_at_call 36; (with_reducible refine (spec_rangeMarks.calls k _ _ l0 t370 _ ?side1 ?side2 A2.out).mono ?_); (case side1 => repeat (first | exact HR0.out | (with_reducible refine Kd.C_alloc ?_ _) | (with_reducible refine Kd.C_drewN ?_ _) | (with_reducible refine Kd.C_drew ?_))); (case side2 => exact HC0.out); rintro e w4 ⟨v371, rfl, ho0, hb⟩; have n0_ := Aside0.mk (Kd.R_lower ho0 (below_size (by repeat (first | (with_reducible first | exact HB.out | apply below_alloc | apply pw_below_drewN | apply below_drew1) | exact HB.out)))); have n1_ := Aside0.mk (below_step (by repeat (first | (with_reducible first | exact HB.out | apply below_alloc | apply pw_below_drewN | apply below_drew1) | exact HB.out)) hb); clear HB; have HO372 := n0_; have HB := n1_; clear n0_ n1_; (try clear hb); (try clear hb2); (try clear hk); (try clear hi); (try clear ho0); obtain ⟨Ao5, co5, eo5⟩ := Kd.R_slice HO372.out; subst eo5)))
  go_ret
  exact ⟨_, by first | rfl | (simp [errW_none, errW_some] <;> rfl) | (simp [*, errW_none, errW_some] <;> rfl), by first | exact Kd.R_nil _ _ _ _ _ | exact Kd.N_nil _ _ _ _ _ | exact Kd.V_nil _ _ _ _ _ | exact Kd.Q_nil _ _ _ _ _ | exact Kd.S_nil _ _ _ _ _, by repeat (first | (with_reducible first | exact HB.out | apply below_alloc | apply pw_below_drewN | apply below_drew1) | exact HB.out)⟩
 ·rw [if_neg c3] at H
  have c3b0 : ((t370.length : Int) == 0) = false := beq_eq_false_iff_ne.mpr c3
  have c3b1 : ((t370.length : Int) != 0) = true := bne_iff_ne.mpr c3
  have c3b2 : ¬ (t370 = []) := fun h_ => c3 (by rw [h_]; rfl)
  by_cases c6 : 0 < (t370.length : Int)
  ·rw [if_pos c6] at H
   have c6b0 : decide (0 < (t370.length : Int)) = true := decide_eq_true c6
   have c6b1 : decide (0 < t370.length) = true := decide_eq_true (by omega)
   clear c6
   obtain ⟨ji7, hji7⟩ : ∃ j_ : Int, (wrap64 ((t370.length : Int) - 1)) = j_ := ⟨_, rfl⟩
   replace H : (if 0 ≤ (ji7) then (if (ji7) < (t370.length : Int) then ((spec_RangesCut.f k l0 (rd t370 0) (wrap64 ((rd t370 (ji7)) - (rd t370 0)))).bind fun t375 => (some t375)) else (none)) else (none)) = some r := by first | (rw [hji7] at H; exact H) | (simp only [hji7] at H ⊢; exact H)
   (try rw [hji7] at A2)
   have hji7w : (IntKind.i64.wrap ((t370.length : Int) - 1)) = ji7 := (i64_w _).trans hji7
   by_cases c8 : 0 ≤ (ji7)
   ·rw [if_pos c8] at H
    have c8b0 : decide (0 ≤ (ji7)) = true := decide_eq_true c8
    clear c8
    by_cases c9 : (ji7) < (t370.length : Int)
    ·rw [if_pos c9] at H
     have c9b0 : decide ((ji7) < (t370.length : Int)) = true := decide_eq_true c9
     clear c9
     replace H := Option.bind_eq_some_iff.mp H
     obtain ⟨t375, A100, H⟩ := H
     replace H : (some t375) = some r := H
     have A10 := Aside0.mk A100
     clear A100
     obtain rfl := Option.some.inj H
     go_enter Try.func26, Try.ntmps26
     go_wp2_with (first | (go_at_call 36; (with_reducible refine (spec_rangeMarks.calls k _ _ l0 t370 _ ?side1 ?side2 A2.out).mono ?_); (case side1 => repeat (first | exact HR0.out | (with_reducible refine Kd.C_alloc ?_ _) | (with_reducible refine Kd.C_drewN ?_ _) | (with_reducible refine Kd.C_drew ?_))); (case side2 => exact HC0.out); rintro e w11 ⟨v371, rfl, ho0, hb⟩; have n0_ := Aside0.mk (Kd.R_lower ho0 (below_size (by repeat (first | (with_reducible first | exact HB.out | apply below_alloc | apply pw_below_drewN | apply below_drew1) | exact HB.out)))); have n1_ := Aside0.mk (below_step (by repeat (first | (with_reducible first | exact HB.out | apply below_alloc | apply pw_below_drewN | apply below_drew1) | exact HB.out)) hb); clear HB; have HO372 := n0_; have HB := n1_; clear n0_ n1_; (try clear hb); (try clear hb2); (try clear hk); (try clear hi); (try clear ho0); obtain ⟨Ao12, co12, eo12⟩ := Kd.R_slice HO372.out; subst eo12; have p373 : 0 ≤ (0 : Int) := (by omega); have q373 : 0 < (t370.length : Int) := of_decide_eq_true (by first | (with_reducible assumption) | assumption); obtain ⟨ad373, e373, hx373_0⟩ := Kd.at_int (Kd.R_reads' HO372.out).2.2 0 p373 q373; cases e373; have qi373 : (0 < t370.length) = True := eq_true (by omega); (try rw [show ((0 : Int)).toNat = 0 from rfl] at hx373_0); (try rw [Addr.add_zero'] at hx373_0); replace p373 := eq_true p373; replace q373 := eq_true q373; have p374 : 0 ≤ ((ji7) : Int) := of_decide_eq_true (by first | (with_reducible assumption) | assumption); have q374 : (ji7) < (t370.length : Int) := of_decide_eq_true (by first | (with_reducible assumption) | assumption); obtain ⟨ad374, e374, hx374_0⟩ := Kd.at_int (Kd.R_reads' HO372.out).2.2 (ji7) p374 q374; obtain rfl : ad373 = ad374 := (by injection e374); replace p374 := eq_true p374; replace q374 := eq_true q374) | (go_at_call 45; (with_reducible refine (spec_RangesCut.calls k _ _ l0 (rd t370 0) (wrap64 ((rd t370 (ji7)) - (rd t370 0))) t375 _ ?side1 ?side2 A10.out).mono ?_); (case side1 => repeat (first | exact (Kd.C_below HR0.out HB.out) | (with_reducible refine Kd.C_alloc ?_ _) | (with_reducible refine Kd.C_drewN ?_ _) | (with_reducible refine Kd.C_drew ?_))); (case side2 => exact HC0.out); rintro e w13 ⟨v376, rfl, ho0, hb⟩; have n0_ := Aside0.mk (Kd.R_below (by (with_reducible repeat (first | apply Kd.R_alloc | apply Kd.R_drewN | apply Kd.R_drew)); exact HO372.out) hb); have n1_ := Aside0.mk (Kd.R_lower ho0 (below_size (by repeat (first | (with_reducible first | exact HB.out | apply below_alloc | apply pw_below_drewN | apply below_drew1) | exact HB.out)))); have n2_ := Aside0.mk (below_step (by repeat (first | (with_reducible first | exact HB.out | apply below_alloc | apply pw_below_drewN | apply below_drew1) | exact HB.out)) hb); clear HO372; clear HB; have HO372 := n0_; have HO377 := n1_; have HB := n2_; clear n0_ n1_ n2_; (try clear hb); (try clear hb2); (try clear hk); (try clear hi); (try clear ho0)))
     repeat (go_quiet (first | (go_at_call 36; (with_reducible refine (spec_rangeMarks.calls k _ _ l0 t370 _ ?side1 ?side2 A2.out).mono ?_); (case side1 => repeat (first | exact HR0.out | (with_reducible refine Kd.C_alloc ?_ _) | (with_reducible refine Kd.C_drewN ?_ _) | (with_reducible refine Kd.C_drew ?_))); (case side2 => exact HC0.out); rintro e w11 ⟨v371, rfl, ho0, hb⟩; have n0_ := Aside0.mk (Kd.R_lower ho0 (below_size (by repeat (first | (with_reducible first | exact HB.out | apply below_alloc | apply pw_below_drewN | apply below_drew1) | exact HB.out)))); have n1_ := Aside0.mk (below_step (by repeat (first | (with_reducible first | exact HB.out | apply below_alloc | apply pw_below_drewN | apply below_drew1) | exact HB.out)) hb); clear HB; have HO372 := n0_; have HB := n1_; clear n0_ n1_; (try clear hb); (try clear hb2); (try clear hk); (try clear hi); (try clear ho0); obtain ⟨Ao12, co12, eo12⟩ := Kd.R_slice HO372.out; subst eo12; have p373 : 0 ≤ (0 : Int) := (by omega); have q373 : 0 < (t370.length : Int) := of_decide_eq_true (by first | (with_reducible assumption) | assumption); obtain ⟨ad373, e373, hx373_0⟩ := Kd.at_int (Kd.R_reads' HO372.out).2.2 0 p373 q373; cases e373; have qi373 : (0 < t370.length) = True := eq_true (by omega); (try rw [show ((0 : Int)).toNat = 0 from rfl] at hx373_0); (try rw [Addr.add_zero'] at hx373_0); replace p373 := eq_true p373; replace q373 := eq_true q373; have p374 : 0 ≤ ((ji7) : Int) := of_decide_eq_true (by first | (with_reducible assumption) | assumption); have q374 : (ji7) < (t370.length : Int) := of_decide_eq_true (by first | (with_reducible assumption) | assumption); obtain ⟨ad374, e374, hx374_0⟩ := Kd.at_int (Kd.R_reads' HO372.out).2.2 (ji7) p374 q374; obtain rfl : ad373 = ad374 := (by injection e374); replace p374 := eq_true p374; replace q374 := eq_true q374) | (go_at_call 45; (with_reducible refine (spec_RangesCut.calls k _ _ l0 (rd t370 0) (wrap64 ((rd t370 (ji7)) - (rd t370 0))) t375 _ ?side1 ?side2 A10.out).mono ?_); (case side1 => repeat (first | exact (Kd.C_below HR0.out HB.out) | (with_reducible refine Kd.C_alloc ?_ _) | (with_reducible refine Kd.C_drewN ?_ _) | (with_reducible refine Kd.C_drew ?_))); (case side2 => exact HC0.out); rintro e w13 ⟨v376, rfl, ho0, hb⟩; have n0_ := Aside0.mk (Kd.R_below (by (with_reducible repeat (first | apply Kd.R_alloc | apply Kd.R_drewN | apply Kd.R_drew)); exact HO372.out) hb); have n1_ := Aside0.mk (Kd.R_lower ho0 (below_size (by repeat (first | (with_reducible first | exact HB.out | apply below_alloc | apply pw_below_drewN | apply below_drew1) | exact HB.out)))); have n2_ := Aside0.mk (below_step (by repeat (first | (with_reducible first | exact HB.out | apply below_alloc | apply pw_below_drewN | apply below_drew1) | exact HB.out)) hb); clear HO372; clear HB; have HO372 := n0_; have HO377 := n1_; have HB := n2_; clear n0_ n1_ n2_; (try clear hb); (try clear hb2); (try clear hk); (try clear hi); (try clear ho0))); try go_wp2_with (first | (go_at_call 36; (with_reducible refine (spec_rangeMarks.calls k _ _ l0 t370 _ ?side1 ?side2 A2.out).mono ?_); (case side1 => repeat (first | exact HR0.out | (with_reducible refine Kd.C_alloc ?_ _) | (with_reducible refine Kd.C_drewN ?_ _) | (with_reducible refine Kd.C_drew ?_))); (case side2 => exact HC0.out); rintro e w11 ⟨v371, rfl, ho0, hb⟩; have n0_ := Aside0.mk (Kd.R_lower ho0 (below_size (by repeat (first | (with_reducible first | exact HB.out | apply below_alloc | apply pw_below_drewN | apply below_drew1) | exact HB.out)))); have n1_ := Aside0.mk (below_step (by repeat (first | (with_reducible first | exact HB.out | apply below_alloc | apply pw_below_drewN | apply below_drew1) | exact HB.out)) hb); clear HB; have HO372 := n0_; have HB := n1_; clear n0_ n1_; (try clear hb); (try clear hb2); (try clear hk); (try clear hi); (try clear ho0); obtain ⟨Ao12, co12, eo12⟩ := Kd.R_slice HO372.out; subst eo12; have p373 : 0 ≤ (0 : Int) := (by omega); have q373 : 0 < (t370.length : Int) := of_decide_eq_true (by first | (with_reducible assumption) | assumption); obtain ⟨ad373, e373, hx373_0⟩ := Kd.at_int (Kd.R_reads' HO372.out).2.2 0 p373 q373; cases e373; have qi373 : (0 < t370.length) = True := eq_true (by omega); (try rw [show ((0 : Int)).toNat = 0 from rfl] at hx373_0); (try rw [Addr.add_zero'] at hx373_0); replace p373 := eq_true p373; replace q373 := eq_true q373; have p374 : 0 ≤ ((ji7) : Int) := of_decide_eq_true (by first | (with_reducible assumption) | assumption); have q374 : (ji7) < (t370.length : Int) := of_decide_eq_true (by first | (with_reducible assumption) | assumption); obtain ⟨ad374, e374, hx374_0⟩ := Kd.at_int (Kd.R_reads' HO372.out).2.2 (ji7) p374 q374; obtain rfl : ad373 = ad374 := (by injection e374); replace p374 := eq_true p374; replace q374 := eq_true q374) | (go_at_call 45; (with_reducible refine (spec_RangesCut.calls k _ _ l0 (rd t370 0) (wrap64 ((rd t370 (ji7)) - (rd t370 0))) t375 _ ?side1 ?side2 A10.out).mono ?_); (case side1 => repeat (first | exact (Kd.C_below HR0.out HB.out) | (with_reducible refine Kd.C_alloc ?_ _) | (with_reducible refine Kd.C_drewN ?_ _) | (with_reducible refine Kd.C_drew ?_))); (case side2 => exact HC0.out); rintro e w13 ⟨v376, rfl, ho0, hb⟩; have n0_ := Aside0.mk (Kd.R_below (by (with_reducible repeat (first | apply Kd.R_alloc | apply Kd.R_drewN | apply Kd.R_drew)); exact HO372.out) hb); have n1_ := Aside0.mk (Kd.R_lower ho0 (below_size (by repeat (first | (with_reducible first | exact HB.out | apply below_alloc | apply pw_below_drewN | apply below_drew1) | exact HB.out)))); have n2_ := Aside0.mk (below_step (by repeat (first | (with_reducible first | exact HB.out | apply below_alloc | apply pw_below_drewN | apply below_drew1) | exact HB.out)) hb); clear HO372; clear HB; have HO372 := n0_; have HO377 := n1_; have HB := n2_; clear n0_ n1_ n2_; (try clear hb); (try clear hb2); (try clear hk); (try clear hi); (try clear ho0))))
     go_ret
     exact ⟨_, by first | rfl | (simp [errW_none, errW_some] <;> rfl) | (simp only [← hji7]; first | rfl | (simp [errW_none, errW_some] <;> rfl)) | (simp [*, errW_none, errW_some] <;> rfl), by (with_reducible repeat (first | apply Kd.R_alloc | apply Kd.R_drewN | apply Kd.R_drew)); exact HO377.out, by repeat (first | (with_reducible first | exact HB.out | apply below_alloc | apply pw_below_drewN | apply below_drew1) | exact HB.out)⟩
    ·rw [if_neg c9] at H
     exact absurd H (by simp)
   ·rw [if_neg c8] at H
    exact absurd H (by simp)
  ·rw [if_neg c6] at H
   exact absurd H (by simp)

end Go.Proofs.Ytmkhkkfliecfdaa.PT
