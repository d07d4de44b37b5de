/- 4 texts of this claim, one behind the other. -/
import Derived.Test.YtonmnpmklkbioaaDoorGa
import Derived.Test.YtonmnpmklkbioaaDoorGg
-- Written by a program of this session.
namespace Go.Proofs.YtonmnpmklkbioaaDoor.PM
open Go.RowKit Go.Proofs.YtonmnpmklkbioaaDoorW.PrintWords Go.Proofs.YtonmnpmklkbioaaDoorW.PrintLast Go.Proofs.YtonmnpmklkbioaaDoorW.PrintMore Go.Proofs.YtonmnpmklkbioaaDoor.Given Go.Proofs.YtonmnpmklkbioaaDoor.PN
attribute [local go_sem] max2_int min2_int max_two min_two max_three min_three max_four min_four   -- for this text's walks alone
set_option linter.unusedVariables false
set_option linter.unusedSimpArgs false
end Go.Proofs.YtonmnpmklkbioaaDoor.PM
-- Written by a program of this session.
namespace Go.Proofs.YtonmnpmklkbioaaDoor.PM
open Go.RowKit Go.Proofs.YtonmnpmklkbioaaDoorW.PrintWords Go.Proofs.YtonmnpmklkbioaaDoorW.PrintLast Go.Proofs.YtonmnpmklkbioaaDoorW.PrintMore Go.Proofs.YtonmnpmklkbioaaDoor.Given Go.Proofs.YtonmnpmklkbioaaDoor.PN
attribute [local go_sem] max2_int min2_int max_two min_two max_three min_three max_four min_four   -- for this text's walks alone
set_option linter.unusedVariables false
set_option linter.unusedSimpArgs false
/-! ### spec_NameOpen: function 19 -/
def spec_NameOpen.j0 : Nat → Int → ByteArray → Bool → Option (Bool)
  | 0, _, _, _ => none
  | k + 1, x0, x1, x30 => if x30 = true then (some true) else ((spec_Units.f x1).bind fun t144 => (if (t144.length : Int) > 1 then (if 0 ≤ (wrap64 ((t144.length : Int) - 2)) then (if (wrap64 ((t144.length : Int) - 2)) < (t144.length : Int) then (if ((rd_T52 t144 (wrap64 ((t144.length : Int) - 2))).f1) = 8219 then (if 0 ≤ (wrap64 ((t144.length : Int) - 1)) then (if (wrap64 ((t144.length : Int) - 1)) < (t144.length : Int) then ((spec_TakesRight.f x0 ((rd_T52 t144 (wrap64 ((t144.length : Int) - 1))).f1)).bind fun t149 => (some t149)) else (none)) else (none)) else (some false)) else (none)) else (none)) else (some false)))
def spec_NameOpen.f (k : Nat) (a0 : Int) (a1 : ByteArray) : Option (Bool) := if (Go.bits .and .u64 a0 33554432) = 0 then (spec_NameOpen.j0 k a0 a1 false) else (if (((Go.bits .and .u64 a0 262144) != 0) != ((Go.bits .and .u64 a0 4194304) != 0)) = true then (if a1.toList = ([46, 239, 188, 142] : List UInt8) then (spec_NameOpen.j0 k a0 a1 true) else (spec_NameOpen.j0 k a0 a1 (a1.toList == ([239, 188, 142, 46] : List UInt8)))) else (spec_NameOpen.j0 k a0 a1 false))
theorem spec_NameOpen.mono_l : ∀ k, (∀ y0 y1 y2, LeO (spec_NameOpen.j0 k y0 y1 y2) (spec_NameOpen.j0 (k + 1) y0 y1 y2))
  | 0 => fun _ _ _ r h => by simp [spec_NameOpen.j0] at h
  | k + 1 => by
    have ih0 := spec_NameOpen.mono_l k
    · intro y0 y1 y2
      unfold spec_NameOpen.j0
      repeat' first
      | (with_reducible exact ih0 _ _ _)
      | (with_reducible exact LeO.refl _)
      | (with_reducible exact LeO.none _)
      | (with_reducible refine LeO.ite ?_ ?_)
      | (with_reducible refine LeO.bind ?_ (fun _ => ?_))
      | exact ih0 _ _ _
      | exact LeO.none _
      | refine LeO.ite ?_ ?_
      | refine LeO.bind ?_ (fun _ => ?_)
theorem spec_NameOpen.mono : ∀ a0 a1 k, LeO (spec_NameOpen.f k a0 a1) (spec_NameOpen.f (k + 1) a0 a1) := by
  intro a0 a1 k
  have ih0 := spec_NameOpen.mono_l k
  unfold spec_NameOpen.f
  repeat' first
      | (with_reducible exact ih0 _ _ _)
      | (with_reducible exact LeO.refl _)
      | (with_reducible exact LeO.none _)
      | (with_reducible refine LeO.ite ?_ ?_)
      | (with_reducible refine LeO.bind ?_ (fun _ => ?_))
      | exact ih0 _ _ _
      | exact LeO.none _
      | refine LeO.ite ?_ ?_
      | refine LeO.bind ?_ (fun _ => ?_)
set_option maxHeartbeats 8000000 in
set_option maxRecDepth 100000 in
theorem spec_NameOpen.calls (k : Nat) (a0 : Int) (a1 : ByteArray) (r : Bool) (w : World) (h : spec_NameOpen.f k a0 a1 = some r) :
    Calls Tryd.prog 19 #[.int .u64 a0, .string a1] w fun e w' => e = .returned (.bool r) ∧ Below w.heap.size w w' := by
  have HB := Aside0.mk (Below.refl w.heap.size w)
  have H : (if (Go.bits .and .u64 a0 33554432) = 0 then (spec_NameOpen.j0 k a0 a1 false) else (if (((Go.bits .and .u64 a0 262144) != 0) != ((Go.bits .and .u64 a0 4194304) != 0)) = true then (if a1.toList = ([46, 239, 188, 142] : List UInt8) then (spec_NameOpen.j0 k a0 a1 true) else (spec_NameOpen.j0 k a0 a1 (a1.toList == ([239, 188, 142, 46] : List UInt8)))) else (spec_NameOpen.j0 k a0 a1 false))) = some r := h
  clear h
  have HC3 := Aside0.mk H
  clear H
  go_enter Tryd.func19, Tryd.ntmps19
  go_upto_region 2 with (fail)
  go_cut [30] (fun v30 wc => ∃ (kq : Nat) (x30_2 : Bool), v30 = .bool x30_2 ∧ Aside0 (spec_NameOpen.j0 kq a0 a1 x30_2 = some r) ∧ Aside0 (kq ≤ k) ∧ Aside0 (Below w.heap.size w wc))
  case first =>
    have H := HC3.out
    clear HC3
    by_cases c4 : (Go.bits .and .u64 a0 33554432) = 0
    · rw [if_pos c4] at H
      have c4b0 : ((Go.bits .and .u64 a0 33554432) == 0) = true := beq_iff_eq.mpr c4
      have c4b1 : ((Go.bits .and .u64 a0 33554432) != 0) = false := bne_eq_false_iff_eq.mpr c4
      clear c4
      (first | rw [c4b0] | (simp only [i64_w, i32_w]; rw [c4b0]) | skip)
      have H' := Aside0.mk H
      clear H
      go_wp2
      go_meet
      case rel => exact ⟨_, (false), (by first | rfl | (simp; done) | (simp [*]; done)), H', ⟨by first | omega | exact Nat.le_refl _⟩, ⟨by repeat (first | (with_reducible first | exact HB.out | apply below_alloc | apply pw_below_drewN | apply below_drew1) | exact HB.out)⟩⟩
    · rw [if_neg c4] at H
      have c4b0 : ((Go.bits .and .u64 a0 33554432) == 0) = false := beq_eq_false_iff_ne.mpr c4
      have c4b1 : ((Go.bits .and .u64 a0 33554432) != 0) = true := bne_iff_ne.mpr c4
      (first | rw [c4b0] | (simp only [i64_w, i32_w]; rw [c4b0]) | skip)
      by_cases c5 : (((Go.bits .and .u64 a0 262144) != 0) != ((Go.bits .and .u64 a0 4194304) != 0)) = true
      · rw [if_pos c5] at H
        have c5b0 : (((Go.bits .and .u64 a0 262144) != 0) != ((Go.bits .and .u64 a0 4194304) != 0)) = true := c5
        (try (have c5b1 : decide (((Go.bits .and .u64 a0 262144) != 0) = ((Go.bits .and .u64 a0 4194304) != 0)) = false := by simpa using c5))
        (try (have c5b2 : (((Go.bits .and .u64 a0 262144) != 0) == ((Go.bits .and .u64 a0 4194304) != 0)) = false := by simpa using c5))
        (try (have c5b3 : ¬ (((Go.bits .and .u64 a0 262144) != 0) = ((Go.bits .and .u64 a0 4194304) != 0)) := by simpa using c5))
        clear c5
        by_cases c6 : a1.toList = ([46, 239, 188, 142] : List UInt8)
        · rw [if_pos c6] at H
          have c6b0 : (a1.toList == ([46, 239, 188, 142] : List UInt8)) = true := beq_iff_eq.mpr c6
          have c6b1 : (a1.toList != ([46, 239, 188, 142] : List UInt8)) = false := bne_eq_false_iff_eq.mpr c6
          clear c6
          have H' := Aside0.mk H
          clear H
          go_wp2
          go_meet
          case rel => exact ⟨_, (true), (by first | rfl | (simp; done) | (simp [*]; done)), H', ⟨by first | omega | exact Nat.le_refl _⟩, ⟨by repeat (first | (with_reducible first | exact HB.out | apply below_alloc | apply pw_below_drewN | apply below_drew1) | exact HB.out)⟩⟩
        · rw [if_neg c6] at H
          have c6b0 : (a1.toList == ([46, 239, 188, 142] : List UInt8)) = false := beq_eq_false_iff_ne.mpr c6
          have c6b1 : (a1.toList != ([46, 239, 188, 142] : List UInt8)) = true := bne_iff_ne.mpr c6
          have H' := Aside0.mk H
          clear H
          go_wp2
          go_meet
          case rel => exact ⟨_, ((a1.toList == ([239, 188, 142, 46] : List UInt8))), (by first | rfl | (simp; done) | (simp [*]; done)), H', ⟨by first | omega | exact Nat.le_refl _⟩, ⟨by repeat (first | (with_reducible first | exact HB.out | apply below_alloc | apply pw_below_drewN | apply below_drew1) | exact HB.out)⟩⟩
      · rw [if_neg c5] at H
        have c5b0 : (((Go.bits .and .u64 a0 262144) != 0) != ((Go.bits .and .u64 a0 4194304) != 0)) = false := by simpa using c5
        (try (have c5b1 : decide (((Go.bits .and .u64 a0 262144) != 0) = ((Go.bits .and .u64 a0 4194304) != 0)) = true := by simpa using c5))
        (try (have c5b2 : (((Go.bits .and .u64 a0 262144) != 0) == ((Go.bits .and .u64 a0 4194304) != 0)) = true := by simpa using c5))
        clear c5
        have H' := Aside0.mk H
        clear H
        go_wp2
        go_meet
        case rel => exact ⟨_, (false), (by first | rfl | (simp; done) | (simp [*]; done)), H', ⟨by first | omega | exact Nat.le_refl _⟩, ⟨by repeat (first | (with_reducible first | exact HB.out | apply below_alloc | apply pw_below_drewN | apply below_drew1) | exact HB.out)⟩⟩
  case rest =>
    clear HC3
    try clear c1
    try clear p2
    try clear c4
    try clear c4b0
    try clear c4b1
    try clear c5
    try clear c5b0
    try clear c5b1
    try clear c5b2
    try clear c6
    try clear c6b0
    try clear c6b1
    obtain ⟨kq, x30_2, rfl, HA, HJ2, HB⟩ := hcut
    cases kq with
    | zero => exact absurd HA.out (by simp [spec_NameOpen.j0])
    | succ kj2 =>
      have H := HA.out
      clear HA
      simp only [spec_NameOpen.j0] at H
      by_cases c7 : x30_2 = true
      · subst c7
        have H1 : (some true) = some r := by rw [if_pos rfl] at H; exact H
        clear H
        have H := H1
        clear H1
        obtain rfl := Option.some.inj H
        go_wp2
        go_ret
        exact ⟨by first | rfl | (simp [errW_none, errW_some] <;> rfl) | (simp [*, errW_none, errW_some] <;> rfl), by repeat (first | (with_reducible first | exact HB.out | apply below_alloc | apply pw_below_drewN | apply below_drew1) | exact HB.out)⟩
      · replace c7 := Bool.eq_false_iff.mpr c7
        subst c7
        have H1 : ((spec_Units.f a1).bind fun t144 => (if (t144.length : Int) > 1 then (if 0 ≤ (wrap64 ((t144.length : Int) - 2)) then (if (wrap64 ((t144.length : Int) - 2)) < (t144.length : Int) then (if ((rd_T52 t144 (wrap64 ((t144.length : Int) - 2))).f1) = 8219 then (if 0 ≤ (wrap64 ((t144.length : Int) - 1)) then (if (wrap64 ((t144.length : Int) - 1)) < (t144.length : Int) then ((spec_TakesRight.f a0 ((rd_T52 t144 (wrap64 ((t144.length : Int) - 1))).f1)).bind fun t149 => (some t149)) else (none)) else (none)) else (some false)) else (none)) else (none)) else (some false))) = some r := by rw [if_neg (show ¬ (false = true) by decide)] at H; exact H
        clear H
        have H := H1
        clear H1
        replace H := Option.bind_eq_some_iff.mp H
        obtain ⟨t144, A80, H⟩ := H
        replace H : (if (t144.length : Int) > 1 then (if 0 ≤ (wrap64 ((t144.length : Int) - 2)) then (if (wrap64 ((t144.length : Int) - 2)) < (t144.length : Int) then (if ((rd_T52 t144 (wrap64 ((t144.length : Int) - 2))).f1) = 8219 then (if 0 ≤ (wrap64 ((t144.length : Int) - 1)) then (if (wrap64 ((t144.length : Int) - 1)) < (t144.length : Int) then ((spec_TakesRight.f a0 ((rd_T52 t144 (wrap64 ((t144.length : Int) - 1))).f1)).bind fun t149 => (some t149)) else (none)) else (none)) else (some false)) else (none)) else (none)) else (some false)) = some r := H
        have A8 := Aside0.mk A80
        clear A80
        by_cases c9 : (t144.length : Int) > 1
        · rw [if_pos c9] at H
          have c9b0 : decide (1 < (t144.length : Int)) = true := decide_eq_true c9
          have c9b1 : decide (1 < t144.length) = true := decide_eq_true (by omega)
          clear c9
          obtain ⟨ji10, hji10⟩ : ∃ j_ : Int, (wrap64 ((t144.length : Int) - 2)) = j_ := ⟨_, rfl⟩
          replace H : (if 0 ≤ (ji10) then (if (ji10) < (t144.length : Int) then (if ((rd_T52 t144 (ji10)).f1) = 8219 then (if 0 ≤ (wrap64 ((t144.length : Int) - 1)) then (if (wrap64 ((t144.length : Int) - 1)) < (t144.length : Int) then ((spec_TakesRight.f a0 ((rd_T52 t144 (wrap64 ((t144.length : Int) - 1))).f1)).bind fun t149 => (some t149)) else (none)) else (none)) else (some false)) else (none)) else (none)) = some r := by first | (rw [hji10] at H; exact H) | (simp only [hji10] at H ⊢; exact H)
          (try rw [hji10] at A8)
          have hji10w : (IntKind.i64.wrap ((t144.length : Int) - 2)) = ji10 := (i64_w _).trans hji10
          by_cases c11 : 0 ≤ (ji10)
          · rw [if_pos c11] at H
            have c11b0 : decide (0 ≤ (ji10)) = true := decide_eq_true c11
            clear c11
            by_cases c12 : (ji10) < (t144.length : Int)
            · rw [if_pos c12] at H
              have c12b0 : decide ((ji10) < (t144.length : Int)) = true := decide_eq_true c12
              clear c12
              by_cases c13 : ((rd_T52 t144 (ji10)).f1) = 8219
              · rw [if_pos c13] at H
                have c13b0 : (((rd_T52 t144 (ji10)).f1) == 8219) = true := beq_iff_eq.mpr c13
                have c13b1 : (((rd_T52 t144 (ji10)).f1) != 8219) = false := bne_eq_false_iff_eq.mpr c13
                clear c13
                obtain ⟨ji14, hji14⟩ : ∃ j_ : Int, (wrap64 ((t144.length : Int) - 1)) = j_ := ⟨_, rfl⟩
                replace H : (if 0 ≤ (ji14) then (if (ji14) < (t144.length : Int) then ((spec_TakesRight.f a0 ((rd_T52 t144 (ji14)).f1)).bind fun t149 => (some t149)) else (none)) else (none)) = some r := by first | (rw [hji14] at H; exact H) | (simp only [hji14] at H ⊢; exact H)
                (try rw [hji14] at A8)
                have hji14w : (IntKind.i64.wrap ((t144.length : Int) - 1)) = ji14 := (i64_w _).trans hji14
                by_cases c15 : 0 ≤ (ji14)
                · rw [if_pos c15] at H
                  have c15b0 : decide (0 ≤ (ji14)) = true := decide_eq_true c15
                  clear c15
                  by_cases c16 : (ji14) < (t144.length : Int)
                  · rw [if_pos c16] at H
                    have c16b0 : decide ((ji14) < (t144.length : Int)) = true := decide_eq_true c16
                    clear c16
                    replace H := Option.bind_eq_some_iff.mp H
                    obtain ⟨t149, A170, H⟩ := H
                    replace H : (some t149) = some r := H
                    have A17 := Aside0.mk A170
                    clear A170
                    obtain rfl := Option.some.inj H
                    go_wp2_with (first | ((with_reducible refine gate_callee (f := 37) rfl ?_); refine goesL_ (some 32) rfl rfl Tryd.func37 (by kernel_rfl) rfl #[.string a1] rfl (by (try simp only [List.map_toArray, List.map_cons, List.map_nil]); first | done | rfl | (simp only [List.length_drop, List.length_take]; rfl)) ?_; (with_reducible refine (spec_Units.calls a1 t144 _ A8.out).mono ?_); rintro e w18 ⟨v145, rfl, ho0, hb⟩; refine ⟨_, rfl, ?_⟩; have n0_ := Aside0.mk (Kd.R_lower ho0 (below_size (by repeat (first | (with_reducible first | exact HB.out | apply below_alloc | apply pw_below_drewN | apply below_drew1) | exact HB.out)))); have n1_ := Aside0.mk (below_step (by repeat (first | (with_reducible first | exact HB.out | apply below_alloc | apply pw_below_drewN | apply below_drew1) | exact HB.out)) hb); clear HB; have HO146 := n0_; have HB := n1_; clear n0_ n1_; (try clear hb); (try clear hb2); (try clear hk); (try clear hi); (try clear ho0); obtain ⟨Ao19, co19, eo19⟩ := Kd.R_slice HO146.out; subst eo19; have p147 : 0 ≤ ((ji10) : Int) := of_decide_eq_true (by first | (with_reducible assumption) | assumption); have q147 : (ji10) < (t144.length : Int) := of_decide_eq_true (by first | (with_reducible assumption) | assumption); obtain ⟨ad147, e147, hx147_0, hx147_1, hx147_2⟩ := at_T52 (Kd.R_reads' HO146.out).2.2 (ji10) p147 q147; cases e147; replace p147 := eq_true p147; replace q147 := eq_true q147; have p148 : 0 ≤ ((ji14) : Int) := of_decide_eq_true (by first | (with_reducible assumption) | assumption); have q148 : (ji14) < (t144.length : Int) := of_decide_eq_true (by first | (with_reducible assumption) | assumption); obtain ⟨ad148, e148, hx148_0, hx148_1, hx148_2⟩ := at_T52 (Kd.R_reads' HO146.out).2.2 (ji14) p148 q148; obtain rfl : ad147 = ad148 := (by injection e148); replace p148 := eq_true p148; replace q148 := eq_true q148) | (go_at_call 42; (with_reducible refine (spec_TakesRight.calls a0 ((rd_T52 t144 (ji14)).f1) t149 _ A17.out).mono ?_); rintro e w' ⟨rfl, ⟨nd, rfl⟩⟩))
                    go_ret
                    exact ⟨by first | rfl | (simp [errW_none, errW_some] <;> rfl) | (simp only [← hji10, ← hji14]; first | rfl | (simp [errW_none, errW_some] <;> rfl)) | (simp [*, errW_none, errW_some] <;> rfl), by repeat (first | (with_reducible first | exact HB.out | apply below_alloc | apply pw_below_drewN | apply below_drew1) | exact HB.out)⟩
                  · rw [if_neg c16] at H
                    exact absurd H (by simp)
                · rw [if_neg c15] at H
                  exact absurd H (by simp)
              · rw [if_neg c13] at H
                have c13b0 : (((rd_T52 t144 (ji10)).f1) == 8219) = false := beq_eq_false_iff_ne.mpr c13
                have c13b1 : (((rd_T52 t144 (ji10)).f1) != 8219) = true := bne_iff_ne.mpr c13
                obtain rfl := Option.some.inj H
                go_wp2_with (first | ((with_reducible refine gate_callee (f := 37) rfl ?_); refine goesL_ (some 32) rfl rfl Tryd.func37 (by kernel_rfl) rfl #[.string a1] rfl (by (try simp only [List.map_toArray, List.map_cons, List.map_nil]); first | done | rfl | (simp only [List.length_drop, List.length_take]; rfl)) ?_; (with_reducible refine (spec_Units.calls a1 t144 _ A8.out).mono ?_); rintro e w20 ⟨v145, rfl, ho0, hb⟩; refine ⟨_, rfl, ?_⟩; have n0_ := Aside0.mk (Kd.R_lower ho0 (below_size (by repeat (first | (with_reducible first | exact HB.out | apply below_alloc | apply pw_below_drewN | apply below_drew1) | exact HB.out)))); have n1_ := Aside0.mk (below_step (by repeat (first | (with_reducible first | exact HB.out | apply below_alloc | apply pw_below_drewN | apply below_drew1) | exact HB.out)) hb); clear HB; have HO146 := n0_; have HB := n1_; clear n0_ n1_; (try clear hb); (try clear hb2); (try clear hk); (try clear hi); (try clear ho0); obtain ⟨Ao21, co21, eo21⟩ := Kd.R_slice HO146.out; subst eo21; have p147 : 0 ≤ ((ji10) : Int) := of_decide_eq_true (by first | (with_reducible assumption) | assumption); have q147 : (ji10) < (t144.length : Int) := of_decide_eq_true (by first | (with_reducible assumption) | assumption); obtain ⟨ad147, e147, hx147_0, hx147_1, hx147_2⟩ := at_T52 (Kd.R_reads' HO146.out).2.2 (ji10) p147 q147; cases e147; replace p147 := eq_true p147; replace q147 := eq_true q147))
                go_ret
                exact ⟨by first | rfl | (simp [errW_none, errW_some] <;> rfl) | (simp only [← hji10]; first | rfl | (simp [errW_none, errW_some] <;> rfl)) | (simp [*, errW_none, errW_some] <;> rfl), by repeat (first | (with_reducible first | exact HB.out | apply below_alloc | apply pw_below_drewN | apply below_drew1) | exact HB.out)⟩
            · rw [if_neg c12] at H
              exact absurd H (by simp)
          · rw [if_neg c11] at H
            exact absurd H (by simp)
        · rw [if_neg c9] at H
          have c9b0 : decide (1 < (t144.length : Int)) = false := decide_eq_false c9
          have c9b1 : decide (1 < t144.length) = false := decide_eq_false (by omega)
          clear c9
          obtain rfl := Option.some.inj H
          go_wp2_with (first | ((with_reducible refine gate_callee (f := 37) rfl ?_); refine goesL_ (some 32) rfl rfl Tryd.func37 (by kernel_rfl) rfl #[.string a1] rfl (by (try simp only [List.map_toArray, List.map_cons, List.map_nil]); first | done | rfl | (simp only [List.length_drop, List.length_take]; rfl)) ?_; (with_reducible refine (spec_Units.calls a1 t144 _ A8.out).mono ?_); rintro e w22 ⟨v145, rfl, ho0, hb⟩; refine ⟨_, rfl, ?_⟩; have n0_ := Aside0.mk (Kd.R_lower ho0 (below_size (by repeat (first | (with_reducible first | exact HB.out | apply below_alloc | apply pw_below_drewN | apply below_drew1) | exact HB.out)))); have n1_ := Aside0.mk (below_step (by repeat (first | (with_reducible first | exact HB.out | apply below_alloc | apply pw_below_drewN | apply below_drew1) | exact HB.out)) hb); clear HB; have HO146 := n0_; have HB := n1_; clear n0_ n1_; (try clear hb); (try clear hb2); (try clear hk); (try clear hi); (try clear ho0); obtain ⟨Ao23, co23, eo23⟩ := Kd.R_slice HO146.out; subst eo23))
          go_ret
          exact ⟨by first | rfl | (simp [errW_none, errW_some] <;> rfl) | (simp [*, errW_none, errW_some] <;> rfl), by repeat (first | (with_reducible first | exact HB.out | apply below_alloc | apply pw_below_drewN | apply below_drew1) | exact HB.out)⟩
end Go.Proofs.YtonmnpmklkbioaaDoor.PM
-- Written by a program of this session.
namespace Go.Proofs.YtonmnpmklkbioaaDoor.PM
open Go.RowKit Go.Proofs.YtonmnpmklkbioaaDoorW.PrintWords Go.Proofs.YtonmnpmklkbioaaDoorW.PrintLast Go.Proofs.YtonmnpmklkbioaaDoorW.PrintMore Go.Proofs.YtonmnpmklkbioaaDoor.Given Go.Proofs.YtonmnpmklkbioaaDoor.PN
attribute [local go_sem] max2_int min2_int max_two min_two max_three min_three max_four min_four   -- for this text's walks alone
set_option linter.unusedVariables false
set_option linter.unusedSimpArgs false
/-! ### laws_encKept: function 32 -/
mutual
def laws_encKept.j0 : Nat → Int → ByteArray → Bool → Option (Bool)
  | 0, _, _, _ => none
  | k + 1, x0, x1, x20 => if x20 = true then (some false) else ((spec_Units.f x1).bind fun t191 => (laws_encKept.l0 k x0 t191 t191 (t191.length : Int) 0))
def laws_encKept.l0 : Nat → Int → List (S52) → List (S52) → Int → Int → Option (Bool)
  | 0, _, _, _, _, _ => none
  | k + 1, x0, x5, x23, x24, x25 => if x25 < x24 then (if 0 ≤ x25 then (if x25 < (x23.length : Int) then ((spec_Takes.f k x0 ((rd_T52 x23 x25).f1)).bind fun t196 => (if t196 = true then (some false) else (if (rd_T52 x23 x25).f2 = true then (if (Go.bits .and .u64 x0 16777216) = 0 then (laws_encKept.l0 k x0 x5 x23 x24 (wrap64 (x25 + 1))) else (some false)) else (laws_encKept.l0 k x0 x5 x23 x24 (wrap64 (x25 + 1)))))) else (none)) else (none)) else (if 0 < (x5.length : Int) then ((spec_TakesLeft.f x0 ((rd_T52 x5 0).f1)).bind fun t198 => (if t198 = true then (some false) else (if 0 ≤ (wrap64 ((x5.length : Int) - 1)) then (if (wrap64 ((x5.length : Int) - 1)) < (x5.length : Int) then ((spec_TakesRight.f x0 ((rd_T52 x5 (wrap64 ((x5.length : Int) - 1))).f1)).bind fun t200 => (some (!t200))) else (none)) else (none)))) else (none))
end
def laws_encKept.f (k : Nat) (a0 : Int) (a1 : ByteArray) : Option (Bool) := if a1.toList = ([] : List UInt8) then (some true) else (if (Go.bits .and .u64 a0 33554432) = 0 then (laws_encKept.j0 k a0 a1 false) else (if a1.toList = ([46] : List UInt8) then (laws_encKept.j0 k a0 a1 true) else (laws_encKept.j0 k a0 a1 (a1.toList == ([46, 46] : List UInt8)))))
theorem laws_encKept.mono_l : ∀ k, (∀ y0 y1 y2, LeO (laws_encKept.j0 k y0 y1 y2) (laws_encKept.j0 (k + 1) y0 y1 y2)) ∧ (∀ y0 y1 y2 y3 y4, LeO (laws_encKept.l0 k y0 y1 y2 y3 y4) (laws_encKept.l0 (k + 1) y0 y1 y2 y3 y4))
  | 0 => ⟨fun _ _ _ r h => by simp [laws_encKept.j0] at h, fun _ _ _ _ _ r h => by simp [laws_encKept.l0] at h⟩
  | k + 1 => by
    obtain ⟨ih0, ih1⟩ := laws_encKept.mono_l k
    refine ⟨?_, ?_⟩
    · intro y0 y1 y2
      unfold laws_encKept.j0
      repeat' first
      | (with_reducible exact ih0 _ _ _)
      | (with_reducible exact ih1 _ _ _ _ _)
      | (with_reducible exact spec_Takes.mono _ _ _)
      | (with_reducible exact LeO.refl _)
      | (with_reducible exact LeO.none _)
      | (with_reducible refine LeO.ite ?_ ?_)
      | (with_reducible refine LeO.bind ?_ (fun _ => ?_))
      | exact ih0 _ _ _
      | exact ih1 _ _ _ _ _
      | exact spec_Takes.mono _ _ _
      | exact LeO.none _
      | refine LeO.ite ?_ ?_
      | refine LeO.bind ?_ (fun _ => ?_)
    · intro y0 y1 y2 y3 y4
      unfold laws_encKept.l0
      repeat' first
      | (with_reducible exact ih0 _ _ _)
      | (with_reducible exact ih1 _ _ _ _ _)
      | (with_reducible exact spec_Takes.mono _ _ _)
      | (with_reducible exact LeO.refl _)
      | (with_reducible exact LeO.none _)
      | (with_reducible refine LeO.ite ?_ ?_)
      | (with_reducible refine LeO.bind ?_ (fun _ => ?_))
      | exact ih0 _ _ _
      | exact ih1 _ _ _ _ _
      | exact spec_Takes.mono _ _ _
      | exact LeO.none _
      | refine LeO.ite ?_ ?_
      | refine LeO.bind ?_ (fun _ => ?_)
theorem laws_encKept.mono : ∀ a0 a1 k, LeO (laws_encKept.f k a0 a1) (laws_encKept.f (k + 1) a0 a1) := by
  intro a0 a1 k
  obtain ⟨ih0, ih1⟩ := laws_encKept.mono_l k
  unfold laws_encKept.f
  repeat' first
      | (with_reducible exact ih0 _ _ _)
      | (with_reducible exact ih1 _ _ _ _ _)
      | (with_reducible exact spec_Takes.mono _ _ _)
      | (with_reducible exact LeO.refl _)
      | (with_reducible exact LeO.none _)
      | (with_reducible refine LeO.ite ?_ ?_)
      | (with_reducible refine LeO.bind ?_ (fun _ => ?_))
      | exact ih0 _ _ _
      | exact ih1 _ _ _ _ _
      | exact spec_Takes.mono _ _ _
      | exact LeO.none _
      | refine LeO.ite ?_ ?_
      | refine LeO.bind ?_ (fun _ => ?_)
set_option maxHeartbeats 8000000 in
set_option maxRecDepth 100000 in
theorem laws_encKept.calls (k : Nat) (a0 : Int) (a1 : ByteArray) (r : Bool) (w : World) (h : laws_encKept.f k a0 a1 = some r) :
    Calls Tryd.prog 32 #[.int .u64 a0, .string a1] w fun e w' => e = .returned (.bool r) ∧ Below w.heap.size w w' := by
  have hu52 := Tryd.underlying52
  have HB := Aside0.mk (Below.refl w.heap.size w)
  have H : (if a1.toList = ([] : List UInt8) then (some true) else (if (Go.bits .and .u64 a0 33554432) = 0 then (laws_encKept.j0 k a0 a1 false) else (if a1.toList = ([46] : List UInt8) then (laws_encKept.j0 k a0 a1 true) else (laws_encKept.j0 k a0 a1 (a1.toList == ([46, 46] : List UInt8)))))) = some r := h
  clear h
  by_cases c3 : a1.toList = ([] : List UInt8)
  · rw [if_pos c3] at H
    have c3b0 : (a1.toList == ([] : List UInt8)) = true := beq_iff_eq.mpr c3
    have c3b1 : (a1.toList != ([] : List UInt8)) = false := bne_eq_false_iff_eq.mpr c3
    clear c3
    obtain rfl := Option.some.inj H
    go_enter Tryd.func32, Tryd.ntmps32
    go_wp2
    go_ret
    exact ⟨by first | rfl | (simp [errW_none, errW_some] <;> rfl) | (simp [*, errW_none, errW_some] <;> rfl), by repeat (first | (with_reducible first | exact HB.out | apply below_alloc | apply pw_below_drewN | apply below_drew1) | exact HB.out)⟩
  · rw [if_neg c3] at H
    have c3b0 : (a1.toList == ([] : List UInt8)) = false := beq_eq_false_iff_ne.mpr c3
    have c3b1 : (a1.toList != ([] : List UInt8)) = true := bne_iff_ne.mpr c3
    have HC4 := Aside0.mk H
    clear H
    go_enter Tryd.func32, Tryd.ntmps32
    go_upto_region 3 with (fail)
    go_cut [20] (fun v20 wc => ∃ (kq : Nat) (x20_3 : Bool), v20 = .bool x20_3 ∧ Aside0 (laws_encKept.j0 kq a0 a1 x20_3 = some r) ∧ Aside0 (kq ≤ k) ∧ Aside0 (Below w.heap.size w wc))
    case first =>
      have H := HC4.out
      clear HC4
      by_cases c5 : (Go.bits .and .u64 a0 33554432) = 0
      · rw [if_pos c5] at H
        have c5b0 : ((Go.bits .and .u64 a0 33554432) == 0) = true := beq_iff_eq.mpr c5
        have c5b1 : ((Go.bits .and .u64 a0 33554432) != 0) = false := bne_eq_false_iff_eq.mpr c5
        clear c5
        (first | rw [c5b0] | (simp only [i64_w, i32_w]; rw [c5b0]) | skip)
        have H' := Aside0.mk H
        clear H
        go_wp2
        go_meet
        case rel => exact ⟨_, (false), (by first | rfl | (simp; done) | (simp [*]; done)), H', ⟨by first | omega | exact Nat.le_refl _⟩, ⟨by repeat (first | (with_reducible first | exact HB.out | apply below_alloc | apply pw_below_drewN | apply below_drew1) | exact HB.out)⟩⟩
      · rw [if_neg c5] at H
        have c5b0 : ((Go.bits .and .u64 a0 33554432) == 0) = false := beq_eq_false_iff_ne.mpr c5
        have c5b1 : ((Go.bits .and .u64 a0 33554432) != 0) = true := bne_iff_ne.mpr c5
        (first | rw [c5b0] | (simp only [i64_w, i32_w]; rw [c5b0]) | skip)
        by_cases c6 : a1.toList = ([46] : List UInt8)
        · rw [if_pos c6] at H
          have c6b0 : (a1.toList == ([46] : List UInt8)) = true := beq_iff_eq.mpr c6
          have c6b1 : (a1.toList != ([46] : List UInt8)) = false := bne_eq_false_iff_eq.mpr c6
          clear c6
          have H' := Aside0.mk H
          clear H
          go_wp2
          go_meet
          case rel => exact ⟨_, (true), (by first | rfl | (simp; done) | (simp [*]; done)), H', ⟨by first | omega | exact Nat.le_refl _⟩, ⟨by repeat (first | (with_reducible first | exact HB.out | apply below_alloc | apply pw_below_drewN | apply below_drew1) | exact HB.out)⟩⟩
        · rw [if_neg c6] at H
          have c6b0 : (a1.toList == ([46] : List UInt8)) = false := beq_eq_false_iff_ne.mpr c6
          have c6b1 : (a1.toList != ([46] : List UInt8)) = true := bne_iff_ne.mpr c6
          have H' := Aside0.mk H
          clear H
          go_wp2
          go_meet
          case rel => exact ⟨_, ((a1.toList == ([46, 46] : List UInt8))), (by first | rfl | (simp; done) | (simp [*]; done)), H', ⟨by first | omega | exact Nat.le_refl _⟩, ⟨by repeat (first | (with_reducible first | exact HB.out | apply below_alloc | apply pw_below_drewN | apply below_drew1) | exact HB.out)⟩⟩
    case rest =>
      clear HC4
      try clear p2
      try clear c3
      try clear c3b0
      try clear c3b1
      try clear c5
      try clear c5b0
      try clear c5b1
      try clear c6
      try clear c6b0
      try clear c6b1
      obtain ⟨kq, x20_3, rfl, HA, HJ3, HB⟩ := hcut
      cases kq with
      | zero => exact absurd HA.out (by simp [laws_encKept.j0])
      | succ kj3 =>
        have H := HA.out
        clear HA
        simp only [laws_encKept.j0] at H
        by_cases c7 : x20_3 = true
        · subst c7
          have H1 : (some false) = some r := by rw [if_pos rfl] at H; exact H
          clear H
          have H := H1
          clear H1
          obtain rfl := Option.some.inj H
          go_wp2
          go_ret
          exact ⟨by first | rfl | (simp [errW_none, errW_some] <;> rfl) | (simp [*, errW_none, errW_some] <;> rfl), by repeat (first | (with_reducible first | exact HB.out | apply below_alloc | apply pw_below_drewN | apply below_drew1) | exact HB.out)⟩
        · replace c7 := Bool.eq_false_iff.mpr c7
          subst c7
          have H1 : ((spec_Units.f a1).bind fun t191 => (laws_encKept.l0 kj3 a0 t191 t191 (t191.length : Int) 0)) = some r := by rw [if_neg (show ¬ (false = true) by decide)] at H; exact H
          clear H
          have H := H1
          clear H1
          replace H := Option.bind_eq_some_iff.mp H
          obtain ⟨t191, A80, H⟩ := H
          replace H : (laws_encKept.l0 kj3 a0 t191 t191 (t191.length : Int) 0) = some r := H
          have A8 := Aside0.mk A80
          clear A80
          have H' := Aside0.mk H
          clear H
          go_wp2_with (first | ((with_reducible refine gate_callee (f := 37) rfl ?_); refine goesL_ (some 22) rfl rfl Tryd.func37 (by kernel_rfl) rfl #[.string a1] rfl (by (try simp only [List.map_toArray, List.map_cons, List.map_nil]); first | done | rfl | (simp only [List.length_drop, List.length_take]; rfl)) ?_; (with_reducible refine (spec_Units.calls a1 t191 _ A8.out).mono ?_); rintro e w9 ⟨v192, rfl, ho0, hb⟩; refine ⟨_, rfl, ?_⟩; have n0_ := Aside0.mk (Kd.R_lower ho0 (below_size (by repeat (first | (with_reducible first | exact HB.out | apply below_alloc | apply pw_below_drewN | apply below_drew1) | exact HB.out)))); have n1_ := Aside0.mk (below_step (by repeat (first | (with_reducible first | exact HB.out | apply below_alloc | apply pw_below_drewN | apply below_drew1) | exact HB.out)) hb); clear HB; have HO193 := n0_; have HB := n1_; clear n0_ n1_; (try clear hb); (try clear hb2); (try clear hk); (try clear hi); (try clear ho0); obtain ⟨Ao10, co10, eo10⟩ := Kd.R_slice HO193.out; subst eo10))
          go_loopg [25] kj3 (fun kq v25 w' => ∃ (x25_2 : Int), v25 = .int .i64 x25_2 ∧ Aside0 (laws_encKept.l0 kq a0 t191 t191 (t191.length : Int) x25_2 = some r) ∧ Aside0 (kq ≤ kj3) ∧ Aside0 (Kd.R k52 52 w' w.heap.size (fun _ => True) (.slice Ao10 t191.length co10) t191) ∧ Aside0 (Kd.R k52 52 w' w.heap.size (fun _ => True) (.slice Ao10 t191.length co10) t191) ∧ Aside0 (Below w.heap.size w w'))
          case atStart => exact ⟨(0), (by first | rfl | (simp; done) | (simp [*]; done)), H', ⟨Nat.le_refl _⟩, ⟨by (with_reducible repeat (first | apply Kd.R_alloc | apply Kd.R_drewN | apply Kd.R_drew)); exact HO193.out⟩, ⟨by (with_reducible repeat (first | apply Kd.R_alloc | apply Kd.R_drewN | apply Kd.R_drew)); exact HO193.out⟩, ⟨by repeat (first | (with_reducible first | exact HB.out | apply below_alloc | apply pw_below_drewN | apply below_drew1) | exact HB.out)⟩⟩
          case round =>
            clear H'
            try clear p2
            try clear c3
            try clear c3b0
            try clear c3b1
            try clear c5
            try clear c5b0
            try clear c5b1
            try clear c6
            try clear c6b0
            try clear c6b1
            try clear c7
            try clear p2
            obtain ⟨x25_2, rfl, HA, HK2, HO_5, HO_23, HB⟩ := hrel
            cases gk with
            | zero => exact absurd HA.out (by simp [laws_encKept.l0])
            | succ k2 =>
              have H := HA.out
              clear HA
              simp only [laws_encKept.l0] at H
              by_cases c11 : x25_2 < (t191.length : Int)
              · rw [if_pos c11] at H
                have c11b0 : decide (x25_2 < (t191.length : Int)) = true := decide_eq_true c11
                clear c11
                by_cases c12 : 0 ≤ x25_2
                · rw [if_pos c12] at H
                  have c12b0 : decide (0 ≤ x25_2) = true := decide_eq_true c12
                  clear c12
                  by_cases c13 : x25_2 < (t191.length : Int)
                  · rw [if_pos c13] at H
                    have c13b0 : decide (x25_2 < (t191.length : Int)) = true := decide_eq_true c13
                    clear c13
                    replace H := Option.bind_eq_some_iff.mp H
                    obtain ⟨t196, A140, H⟩ := H
                    replace H : (if t196 = true then (some false) else (if (rd_T52 t191 x25_2).f2 = true then (if (Go.bits .and .u64 a0 16777216) = 0 then (laws_encKept.l0 k2 a0 t191 t191 (t191.length : Int) (wrap64 (x25_2 + 1))) else (some false)) else (laws_encKept.l0 k2 a0 t191 t191 (t191.length : Int) (wrap64 (x25_2 + 1))))) = some r := H
                    have A14 := Aside0.mk A140
                    clear A140
                    by_cases c15 : t196 = true
                    · subst c15
                      have H1 : (some false) = some r := by rw [if_pos rfl] at H; exact H
                      clear H
                      have H := H1
                      clear H1
                      obtain rfl := Option.some.inj H
                      have p194 : 0 ≤ (x25_2 : Int) := of_decide_eq_true (by first | (with_reducible assumption) | assumption)
                      have q194 : x25_2 < (t191.length : Int) := of_decide_eq_true (by first | (with_reducible assumption) | assumption)
                      obtain ⟨ad194, e194, hx194_0, hx194_1, hx194_2⟩ := at_T52 (Kd.R_reads' HO_23.out).2.2 x25_2 p194 q194
                      cases e194
                      replace p194 := eq_true p194
                      replace q194 := eq_true q194
                      go_wp2_with (first | ((with_reducible refine gate_dst (N := 7) rfl ?_); (try (refine gate_guard (by rfl) ?_; dsimp only)); refine box_event ?hg (N := 7) ?hd (cs := #[.string (⟨#[]⟩ : ByteArray), .int .i32 0, .bool false]) (t := 52) ?hr ?_; (case hd => rfl); (case hg => rfl); (case hr => first | (go_simp; done) | (go_simp; rfl)); intro gb195 hg w16 hbox hb; have n0_ := Aside0.mk (Kd.R_below (Kd.R_elderB (by (with_reducible repeat (first | apply Kd.R_alloc | apply Kd.R_drewN | apply Kd.R_drew)); exact HO_5.out) gb195 (Nat.le_of_eq hg.symm)) hb); have n1_ := Aside0.mk (Kd.R_below (Kd.R_elderB (by (with_reducible repeat (first | apply Kd.R_alloc | apply Kd.R_drewN | apply Kd.R_drew)); exact HO_23.out) gb195 (Nat.le_of_eq hg.symm)) hb); have n2_ := Aside0.mk (below_step (by repeat (first | (with_reducible first | exact HB.out | apply below_alloc | apply pw_below_drewN | apply below_drew1) | exact HB.out)) hb); have n3_ := Aside0.mk (hbox); have n4_ := Aside0.mk ((by rw [hg]; exact (below_size (by repeat (first | (with_reducible first | exact HB.out | apply below_alloc | apply pw_below_drewN | apply below_drew1) | exact HB.out))) : w.heap.size ≤ gb195)); have n5_ := Aside0.mk ((by rw [hg]; exact (below_size (by repeat (first | (with_reducible first | exact HB.out | apply below_alloc | apply pw_below_drewN | apply below_drew1) | exact HB.out))) : w.heap.size ≤ gb195)); clear HO_5; clear HO_23; clear HB; have HO_5 := n0_; have HO_23 := n1_; have HB := n2_; have BK195 := n3_; have GW195 := n4_; have GE195 := n5_; clear n0_ n1_ n2_ n3_ n4_ n5_; clear hb hbox hg; have hcz17_0 : w16.cell? ⟨gb195, 0, none⟩ = some (.string (⟨#[]⟩ : ByteArray)) := (blk_cell BK195.out 0).trans rfl; have hcz17_1 : w16.cell? ⟨gb195, 1, none⟩ = some (.int .i32 0) := (blk_cell BK195.out 1).trans rfl; have hcz17_2 : w16.cell? ⟨gb195, 2, none⟩ = some (.bool false) := (blk_cell BK195.out 2).trans rfl; have hfz17_0 := blk_frozen BK195.out 0; have hfz17_1 := blk_frozen BK195.out 1; have hfz17_2 := blk_frozen BK195.out 2) | ((with_reducible refine gate_callee (f := 46) rfl ?_); refine goesL_ (some 32) rfl rfl Tryd.func46 (by kernel_rfl) rfl #[.int .u64 a0, .int .i32 ((rd_T52 t191 x25_2).f1)] rfl (by (try simp only [List.map_toArray, List.map_cons, List.map_nil]); first | done | rfl | (simp only [List.length_drop, List.length_take]; rfl)) ?_; (with_reducible refine (spec_Takes.calls k2 a0 ((rd_T52 t191 x25_2).f1) true _ A14.out).mono ?_); rintro e w' ⟨rfl, ⟨nd, rfl⟩⟩; refine ⟨_, rfl, ?_⟩))
                      go_ret
                      exact ⟨by first | rfl | (simp [errW_none, errW_some] <;> rfl) | (simp [*, errW_none, errW_some] <;> rfl), by repeat (first | (with_reducible first | exact HB.out | apply below_alloc | apply pw_below_drewN | apply below_drew1 | refine below_set ?_ GE195.out) | exact HB.out)⟩
                    · replace c15 := Bool.eq_false_iff.mpr c15
                      subst c15
                      have H1 : (if (rd_T52 t191 x25_2).f2 = true then (if (Go.bits .and .u64 a0 16777216) = 0 then (laws_encKept.l0 k2 a0 t191 t191 (t191.length : Int) (wrap64 (x25_2 + 1))) else (some false)) else (laws_encKept.l0 k2 a0 t191 t191 (t191.length : Int) (wrap64 (x25_2 + 1)))) = some r := by rw [if_neg (show ¬ (false = true) by decide)] at H; exact H
                      clear H
                      have H := H1
                      clear H1
                      obtain ⟨bq18, hbq18⟩ : ∃ b_ : Bool, b_ = ((rd_T52 t191 x25_2).f2) := ⟨_, rfl⟩
                      replace H : (if bq18 = true then (if (Go.bits .and .u64 a0 16777216) = 0 then (laws_encKept.l0 k2 a0 t191 t191 (t191.length : Int) (wrap64 (x25_2 + 1))) else (some false)) else (laws_encKept.l0 k2 a0 t191 t191 (t191.length : Int) (wrap64 (x25_2 + 1)))) = some r := by rw [← hbq18] at H; exact H
                      have Nbq18 := Aside0.mk hbq18
                      clear hbq18
                      by_cases c19 : bq18 = true
                      · subst c19
                        have H1 : (if (Go.bits .and .u64 a0 16777216) = 0 then (laws_encKept.l0 k2 a0 t191 t191 (t191.length : Int) (wrap64 (x25_2 + 1))) else (some false)) = some r := by rw [if_pos rfl] at H; exact H
                        clear H
                        have H := H1
                        clear H1
                        by_cases c20 : (Go.bits .and .u64 a0 16777216) = 0
                        · rw [if_pos c20] at H
                          have c20b0 : ((Go.bits .and .u64 a0 16777216) == 0) = true := beq_iff_eq.mpr c20
                          have c20b1 : ((Go.bits .and .u64 a0 16777216) != 0) = false := bne_eq_false_iff_eq.mpr c20
                          clear c20
                          have H' := Aside0.mk H
                          clear H
                          have p194 : 0 ≤ (x25_2 : Int) := of_decide_eq_true (by first | (with_reducible assumption) | assumption)
                          have q194 : x25_2 < (t191.length : Int) := of_decide_eq_true (by first | (with_reducible assumption) | assumption)
                          obtain ⟨ad194, e194, hx194_0, hx194_1, hx194_2⟩ := at_T52 (Kd.R_reads' HO_23.out).2.2 x25_2 p194 q194
                          (try rw [← Nbq18.out] at hx194_2)
                          cases e194
                          replace p194 := eq_true p194
                          replace q194 := eq_true q194
                          go_wp2_with (first | ((with_reducible refine gate_dst (N := 7) rfl ?_); (try (refine gate_guard (by rfl) ?_; dsimp only)); refine box_event ?hg (N := 7) ?hd (cs := #[.string (⟨#[]⟩ : ByteArray), .int .i32 0, .bool false]) (t := 52) ?hr ?_; (case hd => rfl); (case hg => rfl); (case hr => first | (go_simp; done) | (go_simp; rfl)); intro gb195 hg w21 hbox hb; have n0_ := Aside0.mk (Kd.R_below (Kd.R_elderB (by (with_reducible repeat (first | apply Kd.R_alloc | apply Kd.R_drewN | apply Kd.R_drew)); exact HO_5.out) gb195 (Nat.le_of_eq hg.symm)) hb); have n1_ := Aside0.mk (Kd.R_below (Kd.R_elderB (by (with_reducible repeat (first | apply Kd.R_alloc | apply Kd.R_drewN | apply Kd.R_drew)); exact HO_23.out) gb195 (Nat.le_of_eq hg.symm)) hb); have n2_ := Aside0.mk (below_step (by repeat (first | (with_reducible first | exact HB.out | apply below_alloc | apply pw_below_drewN | apply below_drew1) | exact HB.out)) hb); have n3_ := Aside0.mk (hbox); have n4_ := Aside0.mk ((by rw [hg]; exact (below_size (by repeat (first | (with_reducible first | exact HB.out | apply below_alloc | apply pw_below_drewN | apply below_drew1) | exact HB.out))) : w.heap.size ≤ gb195)); have n5_ := Aside0.mk ((by rw [hg]; exact (below_size (by repeat (first | (with_reducible first | exact HB.out | apply below_alloc | apply pw_below_drewN | apply below_drew1) | exact HB.out))) : w.heap.size ≤ gb195)); clear HO_5; clear HO_23; clear HB; have HO_5 := n0_; have HO_23 := n1_; have HB := n2_; have BK195 := n3_; have GW195 := n4_; have GE195 := n5_; clear n0_ n1_ n2_ n3_ n4_ n5_; clear hb hbox hg; have hcz22_0 : w21.cell? ⟨gb195, 0, none⟩ = some (.string (⟨#[]⟩ : ByteArray)) := (blk_cell BK195.out 0).trans rfl; have hcz22_1 : w21.cell? ⟨gb195, 1, none⟩ = some (.int .i32 0) := (blk_cell BK195.out 1).trans rfl; have hcz22_2 : w21.cell? ⟨gb195, 2, none⟩ = some (.bool false) := (blk_cell BK195.out 2).trans rfl; have hfz22_0 := blk_frozen BK195.out 0; have hfz22_1 := blk_frozen BK195.out 1; have hfz22_2 := blk_frozen BK195.out 2) | ((with_reducible refine gate_callee (f := 46) rfl ?_); refine goesL_ (some 32) rfl rfl Tryd.func46 (by kernel_rfl) rfl #[.int .u64 a0, .int .i32 ((rd_T52 t191 x25_2).f1)] rfl (by (try simp only [List.map_toArray, List.map_cons, List.map_nil]); first | done | rfl | (simp only [List.length_drop, List.length_take]; rfl)) ?_; (with_reducible refine (spec_Takes.calls k2 a0 ((rd_T52 t191 x25_2).f1) false _ A14.out).mono ?_); rintro e w' ⟨rfl, ⟨nd, rfl⟩⟩; refine ⟨_, rfl, ?_⟩))
                          go_roundg k2
                          case measure => have := HJ3.out; have := HK2.out; omega
                          case rel => exact ⟨(wrap64 (x25_2 + 1)), (by first | rfl | (simp; done) | (simp [*]; done)), H', ⟨by have := HJ3.out; have := HK2.out; omega⟩, ⟨by (with_reducible repeat (first | apply Kd.R_alloc | apply Kd.R_drewN | apply Kd.R_drew)); exact Kd.R_mono (Kd.R_far (p := ⟨gb195, 2, none⟩) (Kd.R_far (p := ⟨gb195, 1, none⟩) (Kd.R_far (p := ⟨gb195, 0, none⟩) (Kd.R_mono HO_5.out (fun k_ hk => (⟨hk, hk.2⟩ : _ ∧ k_ ≠ gb195))) (fun _ hk => hk.2) (.string ((rd_T52 t191 x25_2).f0))) (fun _ hk => hk.2) (.int .i32 ((rd_T52 t191 x25_2).f1))) (fun _ hk => hk.2) (.bool true)) (fun _ hk => trivial)⟩, ⟨by (with_reducible repeat (first | apply Kd.R_alloc | apply Kd.R_drewN | apply Kd.R_drew)); exact Kd.R_mono (Kd.R_far (p := ⟨gb195, 2, none⟩) (Kd.R_far (p := ⟨gb195, 1, none⟩) (Kd.R_far (p := ⟨gb195, 0, none⟩) (Kd.R_mono HO_23.out (fun k_ hk => (⟨hk, hk.2⟩ : _ ∧ k_ ≠ gb195))) (fun _ hk => hk.2) (.string ((rd_T52 t191 x25_2).f0))) (fun _ hk => hk.2) (.int .i32 ((rd_T52 t191 x25_2).f1))) (fun _ hk => hk.2) (.bool true)) (fun _ hk => trivial)⟩, ⟨by repeat (first | (with_reducible first | exact HB.out | apply below_alloc | apply pw_below_drewN | apply below_drew1 | refine below_set ?_ GE195.out) | exact HB.out)⟩⟩
                        · rw [if_neg c20] at H
                          have c20b0 : ((Go.bits .and .u64 a0 16777216) == 0) = false := beq_eq_false_iff_ne.mpr c20
                          have c20b1 : ((Go.bits .and .u64 a0 16777216) != 0) = true := bne_iff_ne.mpr c20
                          obtain rfl := Option.some.inj H
                          have p194 : 0 ≤ (x25_2 : Int) := of_decide_eq_true (by first | (with_reducible assumption) | assumption)
                          have q194 : x25_2 < (t191.length : Int) := of_decide_eq_true (by first | (with_reducible assumption) | assumption)
                          obtain ⟨ad194, e194, hx194_0, hx194_1, hx194_2⟩ := at_T52 (Kd.R_reads' HO_23.out).2.2 x25_2 p194 q194
                          (try rw [← Nbq18.out] at hx194_2)
                          cases e194
                          replace p194 := eq_true p194
                          replace q194 := eq_true q194
                          go_wp2_with (first | ((with_reducible refine gate_dst (N := 7) rfl ?_); (try (refine gate_guard (by rfl) ?_; dsimp only)); refine box_event ?hg (N := 7) ?hd (cs := #[.string (⟨#[]⟩ : ByteArray), .int .i32 0, .bool false]) (t := 52) ?hr ?_; (case hd => rfl); (case hg => rfl); (case hr => first | (go_simp; done) | (go_simp; rfl)); intro gb195 hg w23 hbox hb; have n0_ := Aside0.mk (Kd.R_below (Kd.R_elderB (by (with_reducible repeat (first | apply Kd.R_alloc | apply Kd.R_drewN | apply Kd.R_drew)); exact HO_5.out) gb195 (Nat.le_of_eq hg.symm)) hb); have n1_ := Aside0.mk (Kd.R_below (Kd.R_elderB (by (with_reducible repeat (first | apply Kd.R_alloc | apply Kd.R_drewN | apply Kd.R_drew)); exact HO_23.out) gb195 (Nat.le_of_eq hg.symm)) hb); have n2_ := Aside0.mk (below_step (by repeat (first | (with_reducible first | exact HB.out | apply below_alloc | apply pw_below_drewN | apply below_drew1) | exact HB.out)) hb); have n3_ := Aside0.mk (hbox); have n4_ := Aside0.mk ((by rw [hg]; exact (below_size (by repeat (first | (with_reducible first | exact HB.out | apply below_alloc | apply pw_below_drewN | apply below_drew1) | exact HB.out))) : w.heap.size ≤ gb195)); have n5_ := Aside0.mk ((by rw [hg]; exact (below_size (by repeat (first | (with_reducible first | exact HB.out | apply below_alloc | apply pw_below_drewN | apply below_drew1) | exact HB.out))) : w.heap.size ≤ gb195)); clear HO_5; clear HO_23; clear HB; have HO_5 := n0_; have HO_23 := n1_; have HB := n2_; have BK195 := n3_; have GW195 := n4_; have GE195 := n5_; clear n0_ n1_ n2_ n3_ n4_ n5_; clear hb hbox hg; have hcz24_0 : w23.cell? ⟨gb195, 0, none⟩ = some (.string (⟨#[]⟩ : ByteArray)) := (blk_cell BK195.out 0).trans rfl; have hcz24_1 : w23.cell? ⟨gb195, 1, none⟩ = some (.int .i32 0) := (blk_cell BK195.out 1).trans rfl; have hcz24_2 : w23.cell? ⟨gb195, 2, none⟩ = some (.bool false) := (blk_cell BK195.out 2).trans rfl; have hfz24_0 := blk_frozen BK195.out 0; have hfz24_1 := blk_frozen BK195.out 1; have hfz24_2 := blk_frozen BK195.out 2) | ((with_reducible refine gate_callee (f := 46) rfl ?_); refine goesL_ (some 32) rfl rfl Tryd.func46 (by kernel_rfl) rfl #[.int .u64 a0, .int .i32 ((rd_T52 t191 x25_2).f1)] rfl (by (try simp only [List.map_toArray, List.map_cons, List.map_nil]); first | done | rfl | (simp only [List.length_drop, List.length_take]; rfl)) ?_; (with_reducible refine (spec_Takes.calls k2 a0 ((rd_T52 t191 x25_2).f1) false _ A14.out).mono ?_); rintro e w' ⟨rfl, ⟨nd, rfl⟩⟩; refine ⟨_, rfl, ?_⟩))
                          go_ret
                          exact ⟨by first | rfl | (simp [errW_none, errW_some] <;> rfl) | (simp [*, errW_none, errW_some] <;> rfl), by repeat (first | (with_reducible first | exact HB.out | apply below_alloc | apply pw_below_drewN | apply below_drew1 | refine below_set ?_ GE195.out) | exact HB.out)⟩
                      · replace c19 := Bool.eq_false_iff.mpr c19
                        subst c19
                        have H1 : (laws_encKept.l0 k2 a0 t191 t191 (t191.length : Int) (wrap64 (x25_2 + 1))) = some r := by rw [if_neg (show ¬ (false = true) by decide)] at H; exact H
                        clear H
                        have H := H1
                        clear H1
                        have H' := Aside0.mk H
                        clear H
                        have p194 : 0 ≤ (x25_2 : Int) := of_decide_eq_true (by first | (with_reducible assumption) | assumption)
                        have q194 : x25_2 < (t191.length : Int) := of_decide_eq_true (by first | (with_reducible assumption) | assumption)
                        obtain ⟨ad194, e194, hx194_0, hx194_1, hx194_2⟩ := at_T52 (Kd.R_reads' HO_23.out).2.2 x25_2 p194 q194
                        (try rw [← Nbq18.out] at hx194_2)
                        cases e194
                        replace p194 := eq_true p194
                        replace q194 := eq_true q194
                        go_wp2_with (first | ((with_reducible refine gate_dst (N := 7) rfl ?_); (try (refine gate_guard (by rfl) ?_; dsimp only)); refine box_event ?hg (N := 7) ?hd (cs := #[.string (⟨#[]⟩ : ByteArray), .int .i32 0, .bool false]) (t := 52) ?hr ?_; (case hd => rfl); (case hg => rfl); (case hr => first | (go_simp; done) | (go_simp; rfl)); intro gb195 hg w25 hbox hb; have n0_ := Aside0.mk (Kd.R_below (Kd.R_elderB (by (with_reducible repeat (first | apply Kd.R_alloc | apply Kd.R_drewN | apply Kd.R_drew)); exact HO_5.out) gb195 (Nat.le_of_eq hg.symm)) hb); have n1_ := Aside0.mk (Kd.R_below (Kd.R_elderB (by (with_reducible repeat (first | apply Kd.R_alloc | apply Kd.R_drewN | apply Kd.R_drew)); exact HO_23.out) gb195 (Nat.le_of_eq hg.symm)) hb); have n2_ := Aside0.mk (below_step (by repeat (first | (with_reducible first | exact HB.out | apply below_alloc | apply pw_below_drewN | apply below_drew1) | exact HB.out)) hb); have n3_ := Aside0.mk (hbox); have n4_ := Aside0.mk ((by rw [hg]; exact (below_size (by repeat (first | (with_reducible first | exact HB.out | apply below_alloc | apply pw_below_drewN | apply below_drew1) | exact HB.out))) : w.heap.size ≤ gb195)); have n5_ := Aside0.mk ((by rw [hg]; exact (below_size (by repeat (first | (with_reducible first | exact HB.out | apply below_alloc | apply pw_below_drewN | apply below_drew1) | exact HB.out))) : w.heap.size ≤ gb195)); clear HO_5; clear HO_23; clear HB; have HO_5 := n0_; have HO_23 := n1_; have HB := n2_; have BK195 := n3_; have GW195 := n4_; have GE195 := n5_; clear n0_ n1_ n2_ n3_ n4_ n5_; clear hb hbox hg; have hcz26_0 : w25.cell? ⟨gb195, 0, none⟩ = some (.string (⟨#[]⟩ : ByteArray)) := (blk_cell BK195.out 0).trans rfl; have hcz26_1 : w25.cell? ⟨gb195, 1, none⟩ = some (.int .i32 0) := (blk_cell BK195.out 1).trans rfl; have hcz26_2 : w25.cell? ⟨gb195, 2, none⟩ = some (.bool false) := (blk_cell BK195.out 2).trans rfl; have hfz26_0 := blk_frozen BK195.out 0; have hfz26_1 := blk_frozen BK195.out 1; have hfz26_2 := blk_frozen BK195.out 2) | ((with_reducible refine gate_callee (f := 46) rfl ?_); refine goesL_ (some 32) rfl rfl Tryd.func46 (by kernel_rfl) rfl #[.int .u64 a0, .int .i32 ((rd_T52 t191 x25_2).f1)] rfl (by (try simp only [List.map_toArray, List.map_cons, List.map_nil]); first | done | rfl | (simp only [List.length_drop, List.length_take]; rfl)) ?_; (with_reducible refine (spec_Takes.calls k2 a0 ((rd_T52 t191 x25_2).f1) false _ A14.out).mono ?_); rintro e w' ⟨rfl, ⟨nd, rfl⟩⟩; refine ⟨_, rfl, ?_⟩))
                        go_roundg k2
                        case measure => have := HJ3.out; have := HK2.out; omega
                        case rel => exact ⟨(wrap64 (x25_2 + 1)), (by first | rfl | (simp; done) | (simp [*]; done)), H', ⟨by have := HJ3.out; have := HK2.out; omega⟩, ⟨by (with_reducible repeat (first | apply Kd.R_alloc | apply Kd.R_drewN | apply Kd.R_drew)); exact Kd.R_mono (Kd.R_far (p := ⟨gb195, 2, none⟩) (Kd.R_far (p := ⟨gb195, 1, none⟩) (Kd.R_far (p := ⟨gb195, 0, none⟩) (Kd.R_mono HO_5.out (fun k_ hk => (⟨hk, hk.2⟩ : _ ∧ k_ ≠ gb195))) (fun _ hk => hk.2) (.string ((rd_T52 t191 x25_2).f0))) (fun _ hk => hk.2) (.int .i32 ((rd_T52 t191 x25_2).f1))) (fun _ hk => hk.2) (.bool false)) (fun _ hk => trivial)⟩, ⟨by (with_reducible repeat (first | apply Kd.R_alloc | apply Kd.R_drewN | apply Kd.R_drew)); exact Kd.R_mono (Kd.R_far (p := ⟨gb195, 2, none⟩) (Kd.R_far (p := ⟨gb195, 1, none⟩) (Kd.R_far (p := ⟨gb195, 0, none⟩) (Kd.R_mono HO_23.out (fun k_ hk => (⟨hk, hk.2⟩ : _ ∧ k_ ≠ gb195))) (fun _ hk => hk.2) (.string ((rd_T52 t191 x25_2).f0))) (fun _ hk => hk.2) (.int .i32 ((rd_T52 t191 x25_2).f1))) (fun _ hk => hk.2) (.bool false)) (fun _ hk => trivial)⟩, ⟨by repeat (first | (with_reducible first | exact HB.out | apply below_alloc | apply pw_below_drewN | apply below_drew1 | refine below_set ?_ GE195.out) | exact HB.out)⟩⟩
                  · rw [if_neg c13] at H
                    exact absurd H (by simp)
                · rw [if_neg c12] at H
                  exact absurd H (by simp)
              · rw [if_neg c11] at H
                have c11b0 : decide (x25_2 < (t191.length : Int)) = false := decide_eq_false c11
                clear c11
                by_cases c27 : 0 < (t191.length : Int)
                · rw [if_pos c27] at H
                  have c27b0 : decide (0 < (t191.length : Int)) = true := decide_eq_true c27
                  have c27b1 : decide (0 < t191.length) = true := decide_eq_true (by omega)
                  clear c27
                  replace H := Option.bind_eq_some_iff.mp H
                  obtain ⟨t198, A280, H⟩ := H
                  replace H : (if t198 = true then (some false) else (if 0 ≤ (wrap64 ((t191.length : Int) - 1)) then (if (wrap64 ((t191.length : Int) - 1)) < (t191.length : Int) then ((spec_TakesRight.f a0 ((rd_T52 t191 (wrap64 ((t191.length : Int) - 1))).f1)).bind fun t200 => (some (!t200))) else (none)) else (none))) = some r := H
                  have A28 := Aside0.mk A280
                  clear A280
                  by_cases c29 : t198 = true
                  · subst c29
                    have H1 : (some false) = some r := by rw [if_pos rfl] at H; exact H
                    clear H
                    have H := H1
                    clear H1
                    obtain rfl := Option.some.inj H
                    have p197 : 0 ≤ (0 : Int) := (by omega)
                    have q197 : 0 < (t191.length : Int) := of_decide_eq_true (by first | (with_reducible assumption) | assumption)
                    obtain ⟨ad197, e197, hx197_0, hx197_1, hx197_2⟩ := at_T52 (Kd.R_reads' HO_5.out).2.2 0 p197 q197
                    cases e197
                    have qi197 : (0 < t191.length) = True := eq_true (by omega)
                    (try rw [show ((0 : Int)).toNat = 0 from rfl] at hx197_0)
                    (try rw [show 0 * 3 = 0 from rfl] at hx197_0)
                    (try rw [Addr.add_zero'] at hx197_0)
                    (try rw [show ((0 : Int)).toNat = 0 from rfl] at hx197_1)
                    (try rw [show 0 * 3 = 0 from rfl] at hx197_1)
                    (try rw [Addr.add_zero'] at hx197_1)
                    (try rw [show ((0 : Int)).toNat = 0 from rfl] at hx197_2)
                    (try rw [show 0 * 3 = 0 from rfl] at hx197_2)
                    (try rw [Addr.add_zero'] at hx197_2)
                    replace p197 := eq_true p197
                    replace q197 := eq_true q197
                    go_wp2_with (first | ((with_reducible refine gate_callee (f := 40) rfl ?_); refine goesL_ (some 48) rfl rfl Tryd.func40 (by kernel_rfl) rfl #[.int .u64 a0, .int .i32 ((rd_T52 t191 0).f1)] rfl (by (try simp only [List.map_toArray, List.map_cons, List.map_nil]); first | done | rfl | (simp only [List.length_drop, List.length_take]; rfl)) ?_; (with_reducible refine (spec_TakesLeft.calls a0 ((rd_T52 t191 0).f1) true _ A28.out).mono ?_); rintro e w' ⟨rfl, ⟨nd, rfl⟩⟩; refine ⟨_, rfl, ?_⟩))
                    go_ret
                    exact ⟨by first | rfl | (simp [errW_none, errW_some] <;> rfl) | (simp [*, errW_none, errW_some] <;> rfl), by repeat (first | (with_reducible first | exact HB.out | apply below_alloc | apply pw_below_drewN | apply below_drew1) | exact HB.out)⟩
                  · replace c29 := Bool.eq_false_iff.mpr c29
                    subst c29
                    have H1 : (if 0 ≤ (wrap64 ((t191.length : Int) - 1)) then (if (wrap64 ((t191.length : Int) - 1)) < (t191.length : Int) then ((spec_TakesRight.f a0 ((rd_T52 t191 (wrap64 ((t191.length : Int) - 1))).f1)).bind fun t200 => (some (!t200))) else (none)) else (none)) = some r := by rw [if_neg (show ¬ (false = true) by decide)] at H; exact H
                    clear H
                    have H := H1
                    clear H1
                    obtain ⟨ji30, hji30⟩ : ∃ j_ : Int, (wrap64 ((t191.length : Int) - 1)) = j_ := ⟨_, rfl⟩
                    replace H : (if 0 ≤ (ji30) then (if (ji30) < (t191.length : Int) then ((spec_TakesRight.f a0 ((rd_T52 t191 (ji30)).f1)).bind fun t200 => (some (!t200))) else (none)) else (none)) = some r := by first | (rw [hji30] at H; exact H) | (simp only [hji30] at H ⊢; exact H)
                    (try rw [hji30] at A28)
                    have hji30w : (IntKind.i64.wrap ((t191.length : Int) - 1)) = ji30 := (i64_w _).trans hji30
                    by_cases c31 : 0 ≤ (ji30)
                    · rw [if_pos c31] at H
                      have c31b0 : decide (0 ≤ (ji30)) = true := decide_eq_true c31
                      clear c31
                      by_cases c32 : (ji30) < (t191.length : Int)
                      · rw [if_pos c32] at H
                        have c32b0 : decide ((ji30) < (t191.length : Int)) = true := decide_eq_true c32
                        clear c32
                        replace H := Option.bind_eq_some_iff.mp H
                        obtain ⟨t200, A330, H⟩ := H
                        replace H : (some (!t200)) = some r := H
                        have A33 := Aside0.mk A330
                        clear A330
                        obtain rfl := Option.some.inj H
                        have p197 : 0 ≤ (0 : Int) := (by omega)
                        have q197 : 0 < (t191.length : Int) := of_decide_eq_true (by first | (with_reducible assumption) | assumption)
                        obtain ⟨ad197, e197, hx197_0, hx197_1, hx197_2⟩ := at_T52 (Kd.R_reads' HO_5.out).2.2 0 p197 q197
                        cases e197
                        have qi197 : (0 < t191.length) = True := eq_true (by omega)
                        (try rw [show ((0 : Int)).toNat = 0 from rfl] at hx197_0)
                        (try rw [show 0 * 3 = 0 from rfl] at hx197_0)
                        (try rw [Addr.add_zero'] at hx197_0)
                        (try rw [show ((0 : Int)).toNat = 0 from rfl] at hx197_1)
                        (try rw [show 0 * 3 = 0 from rfl] at hx197_1)
                        (try rw [Addr.add_zero'] at hx197_1)
                        (try rw [show ((0 : Int)).toNat = 0 from rfl] at hx197_2)
                        (try rw [show 0 * 3 = 0 from rfl] at hx197_2)
                        (try rw [Addr.add_zero'] at hx197_2)
                        replace p197 := eq_true p197
                        replace q197 := eq_true q197
                        go_wp2_with (first | ((with_reducible refine gate_callee (f := 40) rfl ?_); refine goesL_ (some 48) rfl rfl Tryd.func40 (by kernel_rfl) rfl #[.int .u64 a0, .int .i32 ((rd_T52 t191 0).f1)] rfl (by (try simp only [List.map_toArray, List.map_cons, List.map_nil]); first | done | rfl | (simp only [List.length_drop, List.length_take]; rfl)) ?_; (with_reducible refine (spec_TakesLeft.calls a0 ((rd_T52 t191 0).f1) false _ A28.out).mono ?_); rintro e w' ⟨rfl, ⟨nd, rfl⟩⟩; refine ⟨_, rfl, ?_⟩; have p199 : 0 ≤ ((ji30) : Int) := of_decide_eq_true (by first | (with_reducible assumption) | assumption); have q199 : (ji30) < (t191.length : Int) := of_decide_eq_true (by first | (with_reducible assumption) | assumption); obtain ⟨ad199, e199, hx199_0, hx199_1, hx199_2⟩ := at_T52 (Kd.R_reads' HO_5.out).2.2 (ji30) p199 q199; obtain rfl : ad197 = ad199 := (by injection e199); replace p199 := eq_true p199; replace q199 := eq_true q199) | (go_at_call 42; (with_reducible refine (spec_TakesRight.calls a0 ((rd_T52 t191 (ji30)).f1) t200 _ A33.out).mono ?_); rintro e w' ⟨rfl, ⟨nd, rfl⟩⟩))
                        go_ret
                        exact ⟨by first | rfl | (simp [errW_none, errW_some] <;> rfl) | (simp only [← hji30]; first | rfl | (simp [errW_none, errW_some] <;> rfl)) | (simp [*, errW_none, errW_some] <;> rfl), by repeat (first | (with_reducible first | exact HB.out | apply below_alloc | apply pw_below_drewN | apply below_drew1) | exact HB.out)⟩
                      · rw [if_neg c32] at H
                        exact absurd H (by simp)
                    · rw [if_neg c31] at H
                      exact absurd H (by simp)
                · rw [if_neg c27] at H
                  exact absurd H (by simp)
end Go.Proofs.YtonmnpmklkbioaaDoor.PM
-- Written by a program of this session.
namespace Go.Proofs.YtonmnpmklkbioaaDoor.PM
open Go.RowKit Go.Proofs.YtonmnpmklkbioaaDoorW.PrintWords Go.Proofs.YtonmnpmklkbioaaDoorW.PrintLast Go.Proofs.YtonmnpmklkbioaaDoorW.PrintMore Go.Proofs.YtonmnpmklkbioaaDoor.Given Go.Proofs.YtonmnpmklkbioaaDoor.PN
attribute [local go_sem] max2_int min2_int max_two min_two max_three min_three max_four min_four   -- for this text's walks alone
set_option linter.unusedVariables false
set_option linter.unusedSimpArgs false
/-! ### laws_encNothing: function 21 -/
mutual
def laws_encNothing.j0 : Nat → Int → ByteArray → Bool → Option (Bool)
  | 0, _, _, _ => none
  | k + 1, x0, x1, x25 => if x25 = true then (some false) else ((spec_Units.f x1).bind fun t202 => (laws_encNothing.l0 k x0 t202 t202 (t202.length : Int) 0))
def laws_encNothing.l0 : Nat → Int → List (S52) → List (S52) → Int → Int → Option (Bool)
  | 0, _, _, _, _, _ => none
  | k + 1, x0, x5, x28, x29, x30 => if x30 < x29 then (if 0 ≤ x30 then (if x30 < (x28.length : Int) then ((spec_SignOf.f k ((rd_T52 x28 x30).f1)).bind fun t207 => (if ((rd_T52 x28 x30).f1) = 8219 then (some false) else (if t207 ≥ 0 then ((spec_Takes.f k x0 t207).bind fun t208 => (if t208 = true then (some false) else (if x30 = 0 then ((spec_TakesLeft.f x0 t207).bind fun t209 => (if t209 = true then (some false) else (if x30 = (wrap64 ((x5.length : Int) - 1)) then ((spec_TakesRight.f x0 t207).bind fun t210 => (if t210 = true then (some false) else (laws_encNothing.l0 k x0 x5 x28 x29 (wrap64 (x30 + 1))))) else (laws_encNothing.l0 k x0 x5 x28 x29 (wrap64 (x30 + 1)))))) else (if x30 = (wrap64 ((x5.length : Int) - 1)) then ((spec_TakesRight.f x0 t207).bind fun t211 => (if t211 = true then (some false) else (laws_encNothing.l0 k x0 x5 x28 x29 (wrap64 (x30 + 1))))) else (laws_encNothing.l0 k x0 x5 x28 x29 (wrap64 (x30 + 1))))))) else (laws_encNothing.l0 k x0 x5 x28 x29 (wrap64 (x30 + 1)))))) else (none)) else (none)) else (some true)
end
def laws_encNothing.f (k : Nat) (a0 : Int) (a1 : ByteArray) : Option (Bool) := (laws_encKept.f k a0 a1).bind fun t201 => (if t201 = true then (if (Go.bits .and .u64 a0 33554432) = 0 then (laws_encNothing.j0 k a0 a1 false) else (if a1.toList = ([239, 188, 142] : List UInt8) then (laws_encNothing.j0 k a0 a1 true) else (laws_encNothing.j0 k a0 a1 (a1.toList == ([239, 188, 142, 239, 188, 142] : List UInt8))))) else (laws_encNothing.j0 k a0 a1 true))
theorem laws_encNothing.mono_l : ∀ k, (∀ y0 y1 y2, LeO (laws_encNothing.j0 k y0 y1 y2) (laws_encNothing.j0 (k + 1) y0 y1 y2)) ∧ (∀ y0 y1 y2 y3 y4, LeO (laws_encNothing.l0 k y0 y1 y2 y3 y4) (laws_encNothing.l0 (k + 1) y0 y1 y2 y3 y4))
  | 0 => ⟨fun _ _ _ r h => by simp [laws_encNothing.j0] at h, fun _ _ _ _ _ r h => by simp [laws_encNothing.l0] at h⟩
  | k + 1 => by
    obtain ⟨ih0, ih1⟩ := laws_encNothing.mono_l k
    refine ⟨?_, ?_⟩
    · intro y0 y1 y2
      unfold laws_encNothing.j0
      repeat' first
      | (with_reducible exact ih0 _ _ _)
      | (with_reducible exact ih1 _ _ _ _ _)
      | (with_reducible exact laws_encKept.mono _ _ _)
      | (with_reducible exact spec_SignOf.mono _ _)
      | (with_reducible exact spec_Takes.mono _ _ _)
      | (with_reducible exact LeO.refl _)
      | (with_reducible exact LeO.none _)
      | (with_reducible refine LeO.ite ?_ ?_)
      | (with_reducible refine LeO.bind ?_ (fun _ => ?_))
      | exact ih0 _ _ _
      | exact ih1 _ _ _ _ _
      | exact laws_encKept.mono _ _ _
      | exact spec_SignOf.mono _ _
      | exact spec_Takes.mono _ _ _
      | exact LeO.none _
      | refine LeO.ite ?_ ?_
      | refine LeO.bind ?_ (fun _ => ?_)
    · intro y0 y1 y2 y3 y4
      unfold laws_encNothing.l0
      repeat' first
      | (with_reducible exact ih0 _ _ _)
      | (with_reducible exact ih1 _ _ _ _ _)
      | (with_reducible exact laws_encKept.mono _ _ _)
      | (with_reducible exact spec_SignOf.mono _ _)
      | (with_reducible exact spec_Takes.mono _ _ _)
      | (with_reducible exact LeO.refl _)
      | (with_reducible exact LeO.none _)
      | (with_reducible refine LeO.ite ?_ ?_)
      | (with_reducible refine LeO.bind ?_ (fun _ => ?_))
      | exact ih0 _ _ _
      | exact ih1 _ _ _ _ _
      | exact laws_encKept.mono _ _ _
      | exact spec_SignOf.mono _ _
      | exact spec_Takes.mono _ _ _
      | exact LeO.none _
      | refine LeO.ite ?_ ?_
      | refine LeO.bind ?_ (fun _ => ?_)
theorem laws_encNothing.mono : ∀ a0 a1 k, LeO (laws_encNothing.f k a0 a1) (laws_encNothing.f (k + 1) a0 a1) := by
  intro a0 a1 k
  obtain ⟨ih0, ih1⟩ := laws_encNothing.mono_l k
  unfold laws_encNothing.f
  repeat' first
      | (with_reducible exact ih0 _ _ _)
      | (with_reducible exact ih1 _ _ _ _ _)
      | (with_reducible exact laws_encKept.mono _ _ _)
      | (with_reducible exact spec_SignOf.mono _ _)
      | (with_reducible exact spec_Takes.mono _ _ _)
      | (with_reducible exact LeO.refl _)
      | (with_reducible exact LeO.none _)
      | (with_reducible refine LeO.ite ?_ ?_)
      | (with_reducible refine LeO.bind ?_ (fun _ => ?_))
      | exact ih0 _ _ _
      | exact ih1 _ _ _ _ _
      | exact laws_encKept.mono _ _ _
      | exact spec_SignOf.mono _ _
      | exact spec_Takes.mono _ _ _
      | exact LeO.none _
      | refine LeO.ite ?_ ?_
      | refine LeO.bind ?_ (fun _ => ?_)
set_option maxHeartbeats 8000000 in
set_option maxRecDepth 100000 in
theorem laws_encNothing.calls (k : Nat) (a0 : Int) (a1 : ByteArray) (r : Bool) (w : World) (h : laws_encNothing.f k a0 a1 = some r) :
    Calls Tryd.prog 21 #[.int .u64 a0, .string a1] w fun e w' => e = .returned (.bool r) ∧ Below w.heap.size w w' := by
  have hu52 := Tryd.underlying52
  have HB := Aside0.mk (Below.refl w.heap.size w)
  have H : ((laws_encKept.f k a0 a1).bind fun t201 => (if t201 = true then (if (Go.bits .and .u64 a0 33554432) = 0 then (laws_encNothing.j0 k a0 a1 false) else (if a1.toList = ([239, 188, 142] : List UInt8) then (laws_encNothing.j0 k a0 a1 true) else (laws_encNothing.j0 k a0 a1 (a1.toList == ([239, 188, 142, 239, 188, 142] : List UInt8))))) else (laws_encNothing.j0 k a0 a1 true))) = some r := h
  clear h
  have HC3 := Aside0.mk H
  clear H
  go_enter Tryd.func21, Tryd.ntmps21
  go_upto_region 1 with (fail)
  go_cut [25] (fun v25 wc => ∃ (kq : Nat) (x25_2 : Bool), v25 = .bool x25_2 ∧ Aside0 (laws_encNothing.j0 kq a0 a1 x25_2 = some r) ∧ Aside0 (kq ≤ k) ∧ Aside0 (Below w.heap.size w wc))
  case first =>
    have H := HC3.out
    clear HC3
    replace H := Option.bind_eq_some_iff.mp H
    obtain ⟨t201, A40, H⟩ := H
    replace H : (if t201 = true then (if (Go.bits .and .u64 a0 33554432) = 0 then (laws_encNothing.j0 k a0 a1 false) else (if a1.toList = ([239, 188, 142] : List UInt8) then (laws_encNothing.j0 k a0 a1 true) else (laws_encNothing.j0 k a0 a1 (a1.toList == ([239, 188, 142, 239, 188, 142] : List UInt8))))) else (laws_encNothing.j0 k a0 a1 true)) = some r := H
    have A4 := Aside0.mk A40
    clear A40
    by_cases c5 : t201 = true
    · subst c5
      have H1 : (if (Go.bits .and .u64 a0 33554432) = 0 then (laws_encNothing.j0 k a0 a1 false) else (if a1.toList = ([239, 188, 142] : List UInt8) then (laws_encNothing.j0 k a0 a1 true) else (laws_encNothing.j0 k a0 a1 (a1.toList == ([239, 188, 142, 239, 188, 142] : List UInt8))))) = some r := by rw [if_pos rfl] at H; exact H
      clear H
      have H := H1
      clear H1
      by_cases c6 : (Go.bits .and .u64 a0 33554432) = 0
      · rw [if_pos c6] at H
        have c6b0 : ((Go.bits .and .u64 a0 33554432) == 0) = true := beq_iff_eq.mpr c6
        have c6b1 : ((Go.bits .and .u64 a0 33554432) != 0) = false := bne_eq_false_iff_eq.mpr c6
        clear c6
        (first | rw [c6b0] | (simp only [i64_w, i32_w]; rw [c6b0]) | skip)
        have H' := Aside0.mk H
        clear H
        go_wp2_with (first | ((with_reducible refine gate_callee (f := 32) rfl ?_); refine goesL_ (some 11) rfl rfl Tryd.func32 (by kernel_rfl) rfl #[.int .u64 a0, .string a1] rfl (by (try simp only [List.map_toArray, List.map_cons, List.map_nil]); first | done | rfl | (simp only [List.length_drop, List.length_take]; rfl)) ?_; (with_reducible refine (laws_encKept.calls k a0 a1 true _ A4.out).mono ?_); rintro e w7 ⟨rfl, hb⟩; refine ⟨_, rfl, ?_⟩; have n0_ := Aside0.mk (below_step (by repeat (first | (with_reducible first | exact HB.out | apply below_alloc | apply pw_below_drewN | apply below_drew1) | exact HB.out)) hb); clear HB; have HB := n0_; clear n0_; (try clear hb); (try clear hb2); (try clear hk); (try clear hi)))
        go_meet
        case rel => exact ⟨_, (false), (by first | rfl | (simp; done) | (simp [*]; done)), H', ⟨by first | omega | exact Nat.le_refl _⟩, ⟨by repeat (first | (with_reducible first | exact HB.out | apply below_alloc | apply pw_below_drewN | apply below_drew1) | exact HB.out)⟩⟩
      · rw [if_neg c6] at H
        have c6b0 : ((Go.bits .and .u64 a0 33554432) == 0) = false := beq_eq_false_iff_ne.mpr c6
        have c6b1 : ((Go.bits .and .u64 a0 33554432) != 0) = true := bne_iff_ne.mpr c6
        (first | rw [c6b0] | (simp only [i64_w, i32_w]; rw [c6b0]) | skip)
        by_cases c8 : a1.toList = ([239, 188, 142] : List UInt8)
        · rw [if_pos c8] at H
          have c8b0 : (a1.toList == ([239, 188, 142] : List UInt8)) = true := beq_iff_eq.mpr c8
          have c8b1 : (a1.toList != ([239, 188, 142] : List UInt8)) = false := bne_eq_false_iff_eq.mpr c8
          clear c8
          have H' := Aside0.mk H
          clear H
          go_wp2_with (first | ((with_reducible refine gate_callee (f := 32) rfl ?_); refine goesL_ (some 11) rfl rfl Tryd.func32 (by kernel_rfl) rfl #[.int .u64 a0, .string a1] rfl (by (try simp only [List.map_toArray, List.map_cons, List.map_nil]); first | done | rfl | (simp only [List.length_drop, List.length_take]; rfl)) ?_; (with_reducible refine (laws_encKept.calls k a0 a1 true _ A4.out).mono ?_); rintro e w9 ⟨rfl, hb⟩; refine ⟨_, rfl, ?_⟩; have n0_ := Aside0.mk (below_step (by repeat (first | (with_reducible first | exact HB.out | apply below_alloc | apply pw_below_drewN | apply below_drew1) | exact HB.out)) hb); clear HB; have HB := n0_; clear n0_; (try clear hb); (try clear hb2); (try clear hk); (try clear hi)))
          go_meet
          case rel => exact ⟨_, (true), (by first | rfl | (simp; done) | (simp [*]; done)), H', ⟨by first | omega | exact Nat.le_refl _⟩, ⟨by repeat (first | (with_reducible first | exact HB.out | apply below_alloc | apply pw_below_drewN | apply below_drew1) | exact HB.out)⟩⟩
        · rw [if_neg c8] at H
          have c8b0 : (a1.toList == ([239, 188, 142] : List UInt8)) = false := beq_eq_false_iff_ne.mpr c8
          have c8b1 : (a1.toList != ([239, 188, 142] : List UInt8)) = true := bne_iff_ne.mpr c8
          have H' := Aside0.mk H
          clear H
          go_wp2_with (first | ((with_reducible refine gate_callee (f := 32) rfl ?_); refine goesL_ (some 11) rfl rfl Tryd.func32 (by kernel_rfl) rfl #[.int .u64 a0, .string a1] rfl (by (try simp only [List.map_toArray, List.map_cons, List.map_nil]); first | done | rfl | (simp only [List.length_drop, List.length_take]; rfl)) ?_; (with_reducible refine (laws_encKept.calls k a0 a1 true _ A4.out).mono ?_); rintro e w10 ⟨rfl, hb⟩; refine ⟨_, rfl, ?_⟩; have n0_ := Aside0.mk (below_step (by repeat (first | (with_reducible first | exact HB.out | apply below_alloc | apply pw_below_drewN | apply below_drew1) | exact HB.out)) hb); clear HB; have HB := n0_; clear n0_; (try clear hb); (try clear hb2); (try clear hk); (try clear hi)))
          go_meet
          case rel => exact ⟨_, ((a1.toList == ([239, 188, 142, 239, 188, 142] : List UInt8))), (by first | rfl | (simp; done) | (simp [*]; done)), H', ⟨by first | omega | exact Nat.le_refl _⟩, ⟨by repeat (first | (with_reducible first | exact HB.out | apply below_alloc | apply pw_below_drewN | apply below_drew1) | exact HB.out)⟩⟩
    · replace c5 := Bool.eq_false_iff.mpr c5
      subst c5
      have H1 : (laws_encNothing.j0 k a0 a1 true) = some r := by rw [if_neg (show ¬ (false = true) by decide)] at H; exact H
      clear H
      have H := H1
      clear H1
      have H' := Aside0.mk H
      clear H
      go_wp2_with (first | ((with_reducible refine gate_callee (f := 32) rfl ?_); refine goesL_ (some 11) rfl rfl Tryd.func32 (by kernel_rfl) rfl #[.int .u64 a0, .string a1] rfl (by (try simp only [List.map_toArray, List.map_cons, List.map_nil]); first | done | rfl | (simp only [List.length_drop, List.length_take]; rfl)) ?_; (with_reducible refine (laws_encKept.calls k a0 a1 false _ A4.out).mono ?_); rintro e w11 ⟨rfl, hb⟩; refine ⟨_, rfl, ?_⟩; have n0_ := Aside0.mk (below_step (by repeat (first | (with_reducible first | exact HB.out | apply below_alloc | apply pw_below_drewN | apply below_drew1) | exact HB.out)) hb); clear HB; have HB := n0_; clear n0_; (try clear hb); (try clear hb2); (try clear hk); (try clear hi)))
      go_meet
      case rel => exact ⟨_, (true), (by first | rfl | (simp; done) | (simp [*]; done)), H', ⟨by first | omega | exact Nat.le_refl _⟩, ⟨by repeat (first | (with_reducible first | exact HB.out | apply below_alloc | apply pw_below_drewN | apply below_drew1) | exact HB.out)⟩⟩
  case rest =>
    clear HC3
    try clear c2
    try clear p2
    try clear c3
    try clear c5
    try clear c6
    try clear c6b0
    try clear c6b1
    try clear c8
    try clear c8b0
    try clear c8b1
    obtain ⟨kq, x25_2, rfl, HA, HJ2, HB⟩ := hcut
    cases kq with
    | zero => exact absurd HA.out (by simp [laws_encNothing.j0])
    | succ kj2 =>
      have H := HA.out
      clear HA
      simp only [laws_encNothing.j0] at H
      by_cases c12 : x25_2 = true
      · subst c12
        have H1 : (some false) = some r := by rw [if_pos rfl] at H; exact H
        clear H
        have H := H1
        clear H1
        obtain rfl := Option.some.inj H
        go_wp2
        go_ret
        exact ⟨by first | rfl | (simp [errW_none, errW_some] <;> rfl) | (simp [*, errW_none, errW_some] <;> rfl), by repeat (first | (with_reducible first | exact HB.out | apply below_alloc | apply pw_below_drewN | apply below_drew1) | exact HB.out)⟩
      · replace c12 := Bool.eq_false_iff.mpr c12
        subst c12
        have H1 : ((spec_Units.f a1).bind fun t202 => (laws_encNothing.l0 kj2 a0 t202 t202 (t202.length : Int) 0)) = some r := by rw [if_neg (show ¬ (false = true) by decide)] at H; exact H
        clear H
        have H := H1
        clear H1
        replace H := Option.bind_eq_some_iff.mp H
        obtain ⟨t202, A130, H⟩ := H
        replace H : (laws_encNothing.l0 kj2 a0 t202 t202 (t202.length : Int) 0) = some r := H
        have A13 := Aside0.mk A130
        clear A130
        have H' := Aside0.mk H
        clear H
        go_wp2_with (first | ((with_reducible refine gate_callee (f := 37) rfl ?_); refine goesL_ (some 27) rfl rfl Tryd.func37 (by kernel_rfl) rfl #[.string a1] rfl (by (try simp only [List.map_toArray, List.map_cons, List.map_nil]); first | done | rfl | (simp only [List.length_drop, List.length_take]; rfl)) ?_; (with_reducible refine (spec_Units.calls a1 t202 _ A13.out).mono ?_); rintro e w14 ⟨v203, rfl, ho0, hb⟩; refine ⟨_, rfl, ?_⟩; have n0_ := Aside0.mk (Kd.R_lower ho0 (below_size (by repeat (first | (with_reducible first | exact HB.out | apply below_alloc | apply pw_below_drewN | apply below_drew1) | exact HB.out)))); have n1_ := Aside0.mk (below_step (by repeat (first | (with_reducible first | exact HB.out | apply below_alloc | apply pw_below_drewN | apply below_drew1) | exact HB.out)) hb); clear HB; have HO204 := n0_; have HB := n1_; clear n0_ n1_; (try clear hb); (try clear hb2); (try clear hk); (try clear hi); (try clear ho0); obtain ⟨Ao15, co15, eo15⟩ := Kd.R_slice HO204.out; subst eo15))
        go_loopg [30] kj2 (fun kq v30 w' => ∃ (x30_2 : Int), v30 = .int .i64 x30_2 ∧ Aside0 (laws_encNothing.l0 kq a0 t202 t202 (t202.length : Int) x30_2 = some r) ∧ Aside0 (kq ≤ kj2) ∧ Aside0 (Kd.R k52 52 w' w.heap.size (fun _ => True) (.slice Ao15 t202.length co15) t202) ∧ Aside0 (Kd.R k52 52 w' w.heap.size (fun _ => True) (.slice Ao15 t202.length co15) t202) ∧ Aside0 (Below w.heap.size w w'))
        case atStart => exact ⟨(0), (by first | rfl | (simp; done) | (simp [*]; done)), H', ⟨Nat.le_refl _⟩, ⟨by (with_reducible repeat (first | apply Kd.R_alloc | apply Kd.R_drewN | apply Kd.R_drew)); exact HO204.out⟩, ⟨by (with_reducible repeat (first | apply Kd.R_alloc | apply Kd.R_drewN | apply Kd.R_drew)); exact HO204.out⟩, ⟨by repeat (first | (with_reducible first | exact HB.out | apply below_alloc | apply pw_below_drewN | apply below_drew1) | exact HB.out)⟩⟩
        case round =>
          clear H'
          try clear c1
          try clear c2
          try clear p2
          try clear c3
          try clear c5
          try clear c6
          try clear c6b0
          try clear c6b1
          try clear c8
          try clear c8b0
          try clear c8b1
          try clear c12
          try clear p2
          obtain ⟨x30_2, rfl, HA, HK2, HO_5, HO_28, HB⟩ := hrel
          cases gk with
          | zero => exact absurd HA.out (by simp [laws_encNothing.l0])
          | succ k2 =>
            have H := HA.out
            clear HA
            simp only [laws_encNothing.l0] at H
            by_cases c16 : x30_2 < (t202.length : Int)
            · rw [if_pos c16] at H
              have c16b0 : decide (x30_2 < (t202.length : Int)) = true := decide_eq_true c16
              clear c16
              by_cases c17 : 0 ≤ x30_2
              · rw [if_pos c17] at H
                have c17b0 : decide (0 ≤ x30_2) = true := decide_eq_true c17
                clear c17
                by_cases c18 : x30_2 < (t202.length : Int)
                · rw [if_pos c18] at H
                  have c18b0 : decide (x30_2 < (t202.length : Int)) = true := decide_eq_true c18
                  clear c18
                  replace H := Option.bind_eq_some_iff.mp H
                  obtain ⟨t207, A190, H⟩ := H
                  replace H : (if ((rd_T52 t202 x30_2).f1) = 8219 then (some false) else (if t207 ≥ 0 then ((spec_Takes.f k2 a0 t207).bind fun t208 => (if t208 = true then (some false) else (if x30_2 = 0 then ((spec_TakesLeft.f a0 t207).bind fun t209 => (if t209 = true then (some false) else (if x30_2 = (wrap64 ((t202.length : Int) - 1)) then ((spec_TakesRight.f a0 t207).bind fun t210 => (if t210 = true then (some false) else (laws_encNothing.l0 k2 a0 t202 t202 (t202.length : Int) (wrap64 (x30_2 + 1))))) else (laws_encNothing.l0 k2 a0 t202 t202 (t202.length : Int) (wrap64 (x30_2 + 1)))))) else (if x30_2 = (wrap64 ((t202.length : Int) - 1)) then ((spec_TakesRight.f a0 t207).bind fun t211 => (if t211 = true then (some false) else (laws_encNothing.l0 k2 a0 t202 t202 (t202.length : Int) (wrap64 (x30_2 + 1))))) else (laws_encNothing.l0 k2 a0 t202 t202 (t202.length : Int) (wrap64 (x30_2 + 1))))))) else (laws_encNothing.l0 k2 a0 t202 t202 (t202.length : Int) (wrap64 (x30_2 + 1))))) = some r := H
                  have A19 := Aside0.mk A190
                  clear A190
                  by_cases c20 : ((rd_T52 t202 x30_2).f1) = 8219
                  · rw [if_pos c20] at H
                    have c20b0 : (((rd_T52 t202 x30_2).f1) == 8219) = true := beq_iff_eq.mpr c20
                    have c20b1 : (((rd_T52 t202 x30_2).f1) != 8219) = false := bne_eq_false_iff_eq.mpr c20
                    clear c20
                    obtain rfl := Option.some.inj H
                    have p205 : 0 ≤ (x30_2 : Int) := of_decide_eq_true (by first | (with_reducible assumption) | assumption)
                    have q205 : x30_2 < (t202.length : Int) := of_decide_eq_true (by first | (with_reducible assumption) | assumption)
                    obtain ⟨ad205, e205, hx205_0, hx205_1, hx205_2⟩ := at_T52 (Kd.R_reads' HO_28.out).2.2 x30_2 p205 q205
                    cases e205
                    replace p205 := eq_true p205
                    replace q205 := eq_true q205
                    go_wp2_with (first | ((with_reducible refine gate_dst (N := 7) rfl ?_); (try (refine gate_guard (by rfl) ?_; dsimp only)); refine box_event ?hg (N := 7) ?hd (cs := #[.string (⟨#[]⟩ : ByteArray), .int .i32 0, .bool false]) (t := 52) ?hr ?_; (case hd => rfl); (case hg => rfl); (case hr => first | (go_simp; done) | (go_simp; rfl)); intro gb206 hg w21 hbox hb; have n0_ := Aside0.mk (Kd.R_below (Kd.R_elderB (by (with_reducible repeat (first | apply Kd.R_alloc | apply Kd.R_drewN | apply Kd.R_drew)); exact HO_5.out) gb206 (Nat.le_of_eq hg.symm)) hb); have n1_ := Aside0.mk (Kd.R_below (Kd.R_elderB (by (with_reducible repeat (first | apply Kd.R_alloc | apply Kd.R_drewN | apply Kd.R_drew)); exact HO_28.out) gb206 (Nat.le_of_eq hg.symm)) hb); have n2_ := Aside0.mk (below_step (by repeat (first | (with_reducible first | exact HB.out | apply below_alloc | apply pw_below_drewN | apply below_drew1) | exact HB.out)) hb); have n3_ := Aside0.mk (hbox); have n4_ := Aside0.mk ((by rw [hg]; exact (below_size (by repeat (first | (with_reducible first | exact HB.out | apply below_alloc | apply pw_below_drewN | apply below_drew1) | exact HB.out))) : w.heap.size ≤ gb206)); have n5_ := Aside0.mk ((by rw [hg]; exact (below_size (by repeat (first | (with_reducible first | exact HB.out | apply below_alloc | apply pw_below_drewN | apply below_drew1) | exact HB.out))) : w.heap.size ≤ gb206)); clear HO_5; clear HO_28; clear HB; have HO_5 := n0_; have HO_28 := n1_; have HB := n2_; have BK206 := n3_; have GW206 := n4_; have GE206 := n5_; clear n0_ n1_ n2_ n3_ n4_ n5_; clear hb hbox hg; have hcz22_0 : w21.cell? ⟨gb206, 0, none⟩ = some (.string (⟨#[]⟩ : ByteArray)) := (blk_cell BK206.out 0).trans rfl; have hcz22_1 : w21.cell? ⟨gb206, 1, none⟩ = some (.int .i32 0) := (blk_cell BK206.out 1).trans rfl; have hcz22_2 : w21.cell? ⟨gb206, 2, none⟩ = some (.bool false) := (blk_cell BK206.out 2).trans rfl; have hfz22_0 := blk_frozen BK206.out 0; have hfz22_1 := blk_frozen BK206.out 1; have hfz22_2 := blk_frozen BK206.out 2) | ((with_reducible refine gate_callee (f := 45) rfl ?_); refine goesL_ (some 37) rfl rfl Tryd.func45 (by kernel_rfl) rfl #[.int .i32 ((rd_T52 t202 x30_2).f1)] rfl (by (try simp only [List.map_toArray, List.map_cons, List.map_nil]); first | done | rfl | (simp only [List.length_drop, List.length_take]; rfl)) ?_; (with_reducible refine (spec_SignOf.calls k2 ((rd_T52 t202 x30_2).f1) t207 _ A19.out).mono ?_); rintro e w' ⟨rfl, ⟨nd, rfl⟩⟩; refine ⟨_, rfl, ?_⟩))
                    go_ret
                    exact ⟨by first | rfl | (simp [errW_none, errW_some] <;> rfl) | (simp [*, errW_none, errW_some] <;> rfl), by repeat (first | (with_reducible first | exact HB.out | apply below_alloc | apply pw_below_drewN | apply below_drew1 | refine below_set ?_ GE206.out) | exact HB.out)⟩
                  · rw [if_neg c20] at H
                    have c20b0 : (((rd_T52 t202 x30_2).f1) == 8219) = false := beq_eq_false_iff_ne.mpr c20
                    have c20b1 : (((rd_T52 t202 x30_2).f1) != 8219) = true := bne_iff_ne.mpr c20
                    by_cases c23 : t207 ≥ 0
                    · rw [if_pos c23] at H
                      have c23b0 : decide (0 ≤ t207) = true := decide_eq_true c23
                      clear c23
                      replace H := Option.bind_eq_some_iff.mp H
                      obtain ⟨t208, A240, H⟩ := H
                      replace H : (if t208 = true then (some false) else (if x30_2 = 0 then ((spec_TakesLeft.f a0 t207).bind fun t209 => (if t209 = true then (some false) else (if x30_2 = (wrap64 ((t202.length : Int) - 1)) then ((spec_TakesRight.f a0 t207).bind fun t210 => (if t210 = true then (some false) else (laws_encNothing.l0 k2 a0 t202 t202 (t202.length : Int) (wrap64 (x30_2 + 1))))) else (laws_encNothing.l0 k2 a0 t202 t202 (t202.length : Int) (wrap64 (x30_2 + 1)))))) else (if x30_2 = (wrap64 ((t202.length : Int) - 1)) then ((spec_TakesRight.f a0 t207).bind fun t211 => (if t211 = true then (some false) else (laws_encNothing.l0 k2 a0 t202 t202 (t202.length : Int) (wrap64 (x30_2 + 1))))) else (laws_encNothing.l0 k2 a0 t202 t202 (t202.length : Int) (wrap64 (x30_2 + 1)))))) = some r := H
                      have A24 := Aside0.mk A240
                      clear A240
                      by_cases c25 : t208 = true
                      · subst c25
                        have H1 : (some false) = some r := by rw [if_pos rfl] at H; exact H
                        clear H
                        have H := H1
                        clear H1
                        obtain rfl := Option.some.inj H
                        have p205 : 0 ≤ (x30_2 : Int) := of_decide_eq_true (by first | (with_reducible assumption) | assumption)
                        have q205 : x30_2 < (t202.length : Int) := of_decide_eq_true (by first | (with_reducible assumption) | assumption)
                        obtain ⟨ad205, e205, hx205_0, hx205_1, hx205_2⟩ := at_T52 (Kd.R_reads' HO_28.out).2.2 x30_2 p205 q205
                        cases e205
                        replace p205 := eq_true p205
                        replace q205 := eq_true q205
                        go_wp2_with (first | ((with_reducible refine gate_dst (N := 7) rfl ?_); (try (refine gate_guard (by rfl) ?_; dsimp only)); refine box_event ?hg (N := 7) ?hd (cs := #[.string (⟨#[]⟩ : ByteArray), .int .i32 0, .bool false]) (t := 52) ?hr ?_; (case hd => rfl); (case hg => rfl); (case hr => first | (go_simp; done) | (go_simp; rfl)); intro gb206 hg w26 hbox hb; have n0_ := Aside0.mk (Kd.R_below (Kd.R_elderB (by (with_reducible repeat (first | apply Kd.R_alloc | apply Kd.R_drewN | apply Kd.R_drew)); exact HO_5.out) gb206 (Nat.le_of_eq hg.symm)) hb); have n1_ := Aside0.mk (Kd.R_below (Kd.R_elderB (by (with_reducible repeat (first | apply Kd.R_alloc | apply Kd.R_drewN | apply Kd.R_drew)); exact HO_28.out) gb206 (Nat.le_of_eq hg.symm)) hb); have n2_ := Aside0.mk (below_step (by repeat (first | (with_reducible first | exact HB.out | apply below_alloc | apply pw_below_drewN | apply below_drew1) | exact HB.out)) hb); have n3_ := Aside0.mk (hbox); have n4_ := Aside0.mk ((by rw [hg]; exact (below_size (by repeat (first | (with_reducible first | exact HB.out | apply below_alloc | apply pw_below_drewN | apply below_drew1) | exact HB.out))) : w.heap.size ≤ gb206)); have n5_ := Aside0.mk ((by rw [hg]; exact (below_size (by repeat (first | (with_reducible first | exact HB.out | apply below_alloc | apply pw_below_drewN | apply below_drew1) | exact HB.out))) : w.heap.size ≤ gb206)); clear HO_5; clear HO_28; clear HB; have HO_5 := n0_; have HO_28 := n1_; have HB := n2_; have BK206 := n3_; have GW206 := n4_; have GE206 := n5_; clear n0_ n1_ n2_ n3_ n4_ n5_; clear hb hbox hg; have hcz27_0 : w26.cell? ⟨gb206, 0, none⟩ = some (.string (⟨#[]⟩ : ByteArray)) := (blk_cell BK206.out 0).trans rfl; have hcz27_1 : w26.cell? ⟨gb206, 1, none⟩ = some (.int .i32 0) := (blk_cell BK206.out 1).trans rfl; have hcz27_2 : w26.cell? ⟨gb206, 2, none⟩ = some (.bool false) := (blk_cell BK206.out 2).trans rfl; have hfz27_0 := blk_frozen BK206.out 0; have hfz27_1 := blk_frozen BK206.out 1; have hfz27_2 := blk_frozen BK206.out 2) | ((with_reducible refine gate_callee (f := 45) rfl ?_); refine goesL_ (some 37) rfl rfl Tryd.func45 (by kernel_rfl) rfl #[.int .i32 ((rd_T52 t202 x30_2).f1)] rfl (by (try simp only [List.map_toArray, List.map_cons, List.map_nil]); first | done | rfl | (simp only [List.length_drop, List.length_take]; rfl)) ?_; (with_reducible refine (spec_SignOf.calls k2 ((rd_T52 t202 x30_2).f1) t207 _ A19.out).mono ?_); rintro e w' ⟨rfl, ⟨nd, rfl⟩⟩; refine ⟨_, rfl, ?_⟩) | (go_at_call 46; (with_reducible refine (spec_Takes.calls k2 a0 t207 true _ A24.out).mono ?_); rintro e w' ⟨rfl, ⟨nd, rfl⟩⟩))
                        go_ret
                        exact ⟨by first | rfl | (simp [errW_none, errW_some] <;> rfl) | (simp [*, errW_none, errW_some] <;> rfl), by repeat (first | (with_reducible first | exact HB.out | apply below_alloc | apply pw_below_drewN | apply below_drew1 | refine below_set ?_ GE206.out) | exact HB.out)⟩
                      · replace c25 := Bool.eq_false_iff.mpr c25
                        subst c25
                        have H1 : (if x30_2 = 0 then ((spec_TakesLeft.f a0 t207).bind fun t209 => (if t209 = true then (some false) else (if x30_2 = (wrap64 ((t202.length : Int) - 1)) then ((spec_TakesRight.f a0 t207).bind fun t210 => (if t210 = true then (some false) else (laws_encNothing.l0 k2 a0 t202 t202 (t202.length : Int) (wrap64 (x30_2 + 1))))) else (laws_encNothing.l0 k2 a0 t202 t202 (t202.length : Int) (wrap64 (x30_2 + 1)))))) else (if x30_2 = (wrap64 ((t202.length : Int) - 1)) then ((spec_TakesRight.f a0 t207).bind fun t211 => (if t211 = true then (some false) else (laws_encNothing.l0 k2 a0 t202 t202 (t202.length : Int) (wrap64 (x30_2 + 1))))) else (laws_encNothing.l0 k2 a0 t202 t202 (t202.length : Int) (wrap64 (x30_2 + 1))))) = some r := by rw [if_neg (show ¬ (false = true) by decide)] at H; exact H
                        clear H
                        have H := H1
                        clear H1
                        by_cases c28 : x30_2 = 0
                        · rw [if_pos c28] at H
                          have c28b0 : (x30_2 == 0) = true := beq_iff_eq.mpr c28
                          have c28b1 : (x30_2 != 0) = false := bne_eq_false_iff_eq.mpr c28
                          clear c28
                          replace H := Option.bind_eq_some_iff.mp H
                          obtain ⟨t209, A290, H⟩ := H
                          replace H : (if t209 = true then (some false) else (if x30_2 = (wrap64 ((t202.length : Int) - 1)) then ((spec_TakesRight.f a0 t207).bind fun t210 => (if t210 = true then (some false) else (laws_encNothing.l0 k2 a0 t202 t202 (t202.length : Int) (wrap64 (x30_2 + 1))))) else (laws_encNothing.l0 k2 a0 t202 t202 (t202.length : Int) (wrap64 (x30_2 + 1))))) = some r := H
                          have A29 := Aside0.mk A290
                          clear A290
                          by_cases c30 : t209 = true
                          · subst c30
                            have H1 : (some false) = some r := by rw [if_pos rfl] at H; exact H
                            clear H
                            have H := H1
                            clear H1
                            obtain rfl := Option.some.inj H
                            have p205 : 0 ≤ (x30_2 : Int) := of_decide_eq_true (by first | (with_reducible assumption) | assumption)
                            have q205 : x30_2 < (t202.length : Int) := of_decide_eq_true (by first | (with_reducible assumption) | assumption)
                            obtain ⟨ad205, e205, hx205_0, hx205_1, hx205_2⟩ := at_T52 (Kd.R_reads' HO_28.out).2.2 x30_2 p205 q205
                            cases e205
                            replace p205 := eq_true p205
                            replace q205 := eq_true q205
                            go_wp2_with (first | ((with_reducible refine gate_dst (N := 7) rfl ?_); (try (refine gate_guard (by rfl) ?_; dsimp only)); refine box_event ?hg (N := 7) ?hd (cs := #[.string (⟨#[]⟩ : ByteArray), .int .i32 0, .bool false]) (t := 52) ?hr ?_; (case hd => rfl); (case hg => rfl); (case hr => first | (go_simp; done) | (go_simp; rfl)); intro gb206 hg w31 hbox hb; have n0_ := Aside0.mk (Kd.R_below (Kd.R_elderB (by (with_reducible repeat (first | apply Kd.R_alloc | apply Kd.R_drewN | apply Kd.R_drew)); exact HO_5.out) gb206 (Nat.le_of_eq hg.symm)) hb); have n1_ := Aside0.mk (Kd.R_below (Kd.R_elderB (by (with_reducible repeat (first | apply Kd.R_alloc | apply Kd.R_drewN | apply Kd.R_drew)); exact HO_28.out) gb206 (Nat.le_of_eq hg.symm)) hb); have n2_ := Aside0.mk (below_step (by repeat (first | (with_reducible first | exact HB.out | apply below_alloc | apply pw_below_drewN | apply below_drew1) | exact HB.out)) hb); have n3_ := Aside0.mk (hbox); have n4_ := Aside0.mk ((by rw [hg]; exact (below_size (by repeat (first | (with_reducible first | exact HB.out | apply below_alloc | apply pw_below_drewN | apply below_drew1) | exact HB.out))) : w.heap.size ≤ gb206)); have n5_ := Aside0.mk ((by rw [hg]; exact (below_size (by repeat (first | (with_reducible first | exact HB.out | apply below_alloc | apply pw_below_drewN | apply below_drew1) | exact HB.out))) : w.heap.size ≤ gb206)); clear HO_5; clear HO_28; clear HB; have HO_5 := n0_; have HO_28 := n1_; have HB := n2_; have BK206 := n3_; have GW206 := n4_; have GE206 := n5_; clear n0_ n1_ n2_ n3_ n4_ n5_; clear hb hbox hg; have hcz32_0 : w31.cell? ⟨gb206, 0, none⟩ = some (.string (⟨#[]⟩ : ByteArray)) := (blk_cell BK206.out 0).trans rfl; have hcz32_1 : w31.cell? ⟨gb206, 1, none⟩ = some (.int .i32 0) := (blk_cell BK206.out 1).trans rfl; have hcz32_2 : w31.cell? ⟨gb206, 2, none⟩ = some (.bool false) := (blk_cell BK206.out 2).trans rfl; have hfz32_0 := blk_frozen BK206.out 0; have hfz32_1 := blk_frozen BK206.out 1; have hfz32_2 := blk_frozen BK206.out 2) | ((with_reducible refine gate_callee (f := 45) rfl ?_); refine goesL_ (some 37) rfl rfl Tryd.func45 (by kernel_rfl) rfl #[.int .i32 ((rd_T52 t202 x30_2).f1)] rfl (by (try simp only [List.map_toArray, List.map_cons, List.map_nil]); first | done | rfl | (simp only [List.length_drop, List.length_take]; rfl)) ?_; (with_reducible refine (spec_SignOf.calls k2 ((rd_T52 t202 x30_2).f1) t207 _ A19.out).mono ?_); rintro e w' ⟨rfl, ⟨nd, rfl⟩⟩; refine ⟨_, rfl, ?_⟩) | (go_at_call 46; (with_reducible refine (spec_Takes.calls k2 a0 t207 false _ A24.out).mono ?_); rintro e w' ⟨rfl, ⟨nd, rfl⟩⟩) | (go_at_call 40; (with_reducible refine (spec_TakesLeft.calls a0 t207 true _ A29.out).mono ?_); rintro e w' ⟨rfl, ⟨nd, rfl⟩⟩))
                            go_ret
                            exact ⟨by first | rfl | (simp [errW_none, errW_some] <;> rfl) | (simp [*, errW_none, errW_some] <;> rfl), by repeat (first | (with_reducible first | exact HB.out | apply below_alloc | apply pw_below_drewN | apply below_drew1 | refine below_set ?_ GE206.out) | exact HB.out)⟩
                          · replace c30 := Bool.eq_false_iff.mpr c30
                            subst c30
                            have H1 : (if x30_2 = (wrap64 ((t202.length : Int) - 1)) then ((spec_TakesRight.f a0 t207).bind fun t210 => (if t210 = true then (some false) else (laws_encNothing.l0 k2 a0 t202 t202 (t202.length : Int) (wrap64 (x30_2 + 1))))) else (laws_encNothing.l0 k2 a0 t202 t202 (t202.length : Int) (wrap64 (x30_2 + 1)))) = some r := by rw [if_neg (show ¬ (false = true) by decide)] at H; exact H
                            clear H
                            have H := H1
                            clear H1
                            by_cases c33 : x30_2 = (wrap64 ((t202.length : Int) - 1))
                            · rw [if_pos c33] at H
                              have c33b0 : (x30_2 == (wrap64 ((t202.length : Int) - 1))) = true := beq_iff_eq.mpr c33
                              have c33b1 : (x30_2 != (wrap64 ((t202.length : Int) - 1))) = false := bne_eq_false_iff_eq.mpr c33
                              clear c33
                              replace H := Option.bind_eq_some_iff.mp H
                              obtain ⟨t210, A340, H⟩ := H
                              replace H : (if t210 = true then (some false) else (laws_encNothing.l0 k2 a0 t202 t202 (t202.length : Int) (wrap64 (x30_2 + 1)))) = some r := H
                              have A34 := Aside0.mk A340
                              clear A340
                              by_cases c35 : t210 = true
                              · subst c35
                                have H1 : (some false) = some r := by rw [if_pos rfl] at H; exact H
                                clear H
                                have H := H1
                                clear H1
                                obtain rfl := Option.some.inj H
                                have p205 : 0 ≤ (x30_2 : Int) := of_decide_eq_true (by first | (with_reducible assumption) | assumption)
                                have q205 : x30_2 < (t202.length : Int) := of_decide_eq_true (by first | (with_reducible assumption) | assumption)
                                obtain ⟨ad205, e205, hx205_0, hx205_1, hx205_2⟩ := at_T52 (Kd.R_reads' HO_28.out).2.2 x30_2 p205 q205
                                cases e205
                                replace p205 := eq_true p205
                                replace q205 := eq_true q205
                                go_wp2_with (first | ((with_reducible refine gate_dst (N := 7) rfl ?_); (try (refine gate_guard (by rfl) ?_; dsimp only)); refine box_event ?hg (N := 7) ?hd (cs := #[.string (⟨#[]⟩ : ByteArray), .int .i32 0, .bool false]) (t := 52) ?hr ?_; (case hd => rfl); (case hg => rfl); (case hr => first | (go_simp; done) | (go_simp; rfl)); intro gb206 hg w36 hbox hb; have n0_ := Aside0.mk (Kd.R_below (Kd.R_elderB (by (with_reducible repeat (first | apply Kd.R_alloc | apply Kd.R_drewN | apply Kd.R_drew)); exact HO_5.out) gb206 (Nat.le_of_eq hg.symm)) hb); have n1_ := Aside0.mk (Kd.R_below (Kd.R_elderB (by (with_reducible repeat (first | apply Kd.R_alloc | apply Kd.R_drewN | apply Kd.R_drew)); exact HO_28.out) gb206 (Nat.le_of_eq hg.symm)) hb); have n2_ := Aside0.mk (below_step (by repeat (first | (with_reducible first | exact HB.out | apply below_alloc | apply pw_below_drewN | apply below_drew1) | exact HB.out)) hb); have n3_ := Aside0.mk (hbox); have n4_ := Aside0.mk ((by rw [hg]; exact (below_size (by repeat (first | (with_reducible first | exact HB.out | apply below_alloc | apply pw_below_drewN | apply below_drew1) | exact HB.out))) : w.heap.size ≤ gb206)); have n5_ := Aside0.mk ((by rw [hg]; exact (below_size (by repeat (first | (with_reducible first | exact HB.out | apply below_alloc | apply pw_below_drewN | apply below_drew1) | exact HB.out))) : w.heap.size ≤ gb206)); clear HO_5; clear HO_28; clear HB; have HO_5 := n0_; have HO_28 := n1_; have HB := n2_; have BK206 := n3_; have GW206 := n4_; have GE206 := n5_; clear n0_ n1_ n2_ n3_ n4_ n5_; clear hb hbox hg; have hcz37_0 : w36.cell? ⟨gb206, 0, none⟩ = some (.string (⟨#[]⟩ : ByteArray)) := (blk_cell BK206.out 0).trans rfl; have hcz37_1 : w36.cell? ⟨gb206, 1, none⟩ = some (.int .i32 0) := (blk_cell BK206.out 1).trans rfl; have hcz37_2 : w36.cell? ⟨gb206, 2, none⟩ = some (.bool false) := (blk_cell BK206.out 2).trans rfl; have hfz37_0 := blk_frozen BK206.out 0; have hfz37_1 := blk_frozen BK206.out 1; have hfz37_2 := blk_frozen BK206.out 2) | ((with_reducible refine gate_callee (f := 45) rfl ?_); refine goesL_ (some 37) rfl rfl Tryd.func45 (by kernel_rfl) rfl #[.int .i32 ((rd_T52 t202 x30_2).f1)] rfl (by (try simp only [List.map_toArray, List.map_cons, List.map_nil]); first | done | rfl | (simp only [List.length_drop, List.length_take]; rfl)) ?_; (with_reducible refine (spec_SignOf.calls k2 ((rd_T52 t202 x30_2).f1) t207 _ A19.out).mono ?_); rintro e w' ⟨rfl, ⟨nd, rfl⟩⟩; refine ⟨_, rfl, ?_⟩) | (go_at_call 46; (with_reducible refine (spec_Takes.calls k2 a0 t207 false _ A24.out).mono ?_); rintro e w' ⟨rfl, ⟨nd, rfl⟩⟩) | (go_at_call 40; (with_reducible refine (spec_TakesLeft.calls a0 t207 false _ A29.out).mono ?_); rintro e w' ⟨rfl, ⟨nd, rfl⟩⟩) | (go_at_call 42; (with_reducible refine (spec_TakesRight.calls a0 t207 true _ A34.out).mono ?_); rintro e w' ⟨rfl, ⟨nd, rfl⟩⟩))
                                go_ret
                                exact ⟨by first | rfl | (simp [errW_none, errW_some] <;> rfl) | (simp [*, errW_none, errW_some] <;> rfl), by repeat (first | (with_reducible first | exact HB.out | apply below_alloc | apply pw_below_drewN | apply below_drew1 | refine below_set ?_ GE206.out) | exact HB.out)⟩
                              · replace c35 := Bool.eq_false_iff.mpr c35
                                subst c35
                                have H1 : (laws_encNothing.l0 k2 a0 t202 t202 (t202.length : Int) (wrap64 (x30_2 + 1))) = some r := by rw [if_neg (show ¬ (false = true) by decide)] at H; exact H
                                clear H
                                have H := H1
                                clear H1
                                have H' := Aside0.mk H
                                clear H
                                have p205 : 0 ≤ (x30_2 : Int) := of_decide_eq_true (by first | (with_reducible assumption) | assumption)
                                have q205 : x30_2 < (t202.length : Int) := of_decide_eq_true (by first | (with_reducible assumption) | assumption)
                                obtain ⟨ad205, e205, hx205_0, hx205_1, hx205_2⟩ := at_T52 (Kd.R_reads' HO_28.out).2.2 x30_2 p205 q205
                                cases e205
                                replace p205 := eq_true p205
                                replace q205 := eq_true q205
                                go_wp2_with (first | ((with_reducible refine gate_dst (N := 7) rfl ?_); (try (refine gate_guard (by rfl) ?_; dsimp only)); refine box_event ?hg (N := 7) ?hd (cs := #[.string (⟨#[]⟩ : ByteArray), .int .i32 0, .bool false]) (t := 52) ?hr ?_; (case hd => rfl); (case hg => rfl); (case hr => first | (go_simp; done) | (go_simp; rfl)); intro gb206 hg w38 hbox hb; have n0_ := Aside0.mk (Kd.R_below (Kd.R_elderB (by (with_reducible repeat (first | apply Kd.R_alloc | apply Kd.R_drewN | apply Kd.R_drew)); exact HO_5.out) gb206 (Nat.le_of_eq hg.symm)) hb); have n1_ := Aside0.mk (Kd.R_below (Kd.R_elderB (by (with_reducible repeat (first | apply Kd.R_alloc | apply Kd.R_drewN | apply Kd.R_drew)); exact HO_28.out) gb206 (Nat.le_of_eq hg.symm)) hb); have n2_ := Aside0.mk (below_step (by repeat (first | (with_reducible first | exact HB.out | apply below_alloc | apply pw_below_drewN | apply below_drew1) | exact HB.out)) hb); have n3_ := Aside0.mk (hbox); have n4_ := Aside0.mk ((by rw [hg]; exact (below_size (by repeat (first | (with_reducible first | exact HB.out | apply below_alloc | apply pw_below_drewN | apply below_drew1) | exact HB.out))) : w.heap.size ≤ gb206)); have n5_ := Aside0.mk ((by rw [hg]; exact (below_size (by repeat (first | (with_reducible first | exact HB.out | apply below_alloc | apply pw_below_drewN | apply below_drew1) | exact HB.out))) : w.heap.size ≤ gb206)); clear HO_5; clear HO_28; clear HB; have HO_5 := n0_; have HO_28 := n1_; have HB := n2_; have BK206 := n3_; have GW206 := n4_; have GE206 := n5_; clear n0_ n1_ n2_ n3_ n4_ n5_; clear hb hbox hg; have hcz39_0 : w38.cell? ⟨gb206, 0, none⟩ = some (.string (⟨#[]⟩ : ByteArray)) := (blk_cell BK206.out 0).trans rfl; have hcz39_1 : w38.cell? ⟨gb206, 1, none⟩ = some (.int .i32 0) := (blk_cell BK206.out 1).trans rfl; have hcz39_2 : w38.cell? ⟨gb206, 2, none⟩ = some (.bool false) := (blk_cell BK206.out 2).trans rfl; have hfz39_0 := blk_frozen BK206.out 0; have hfz39_1 := blk_frozen BK206.out 1; have hfz39_2 := blk_frozen BK206.out 2) | ((with_reducible refine gate_callee (f := 45) rfl ?_); refine goesL_ (some 37) rfl rfl Tryd.func45 (by kernel_rfl) rfl #[.int .i32 ((rd_T52 t202 x30_2).f1)] rfl (by (try simp only [List.map_toArray, List.map_cons, List.map_nil]); first | done | rfl | (simp only [List.length_drop, List.length_take]; rfl)) ?_; (with_reducible refine (spec_SignOf.calls k2 ((rd_T52 t202 x30_2).f1) t207 _ A19.out).mono ?_); rintro e w' ⟨rfl, ⟨nd, rfl⟩⟩; refine ⟨_, rfl, ?_⟩) | (go_at_call 46; (with_reducible refine (spec_Takes.calls k2 a0 t207 false _ A24.out).mono ?_); rintro e w' ⟨rfl, ⟨nd, rfl⟩⟩) | (go_at_call 40; (with_reducible refine (spec_TakesLeft.calls a0 t207 false _ A29.out).mono ?_); rintro e w' ⟨rfl, ⟨nd, rfl⟩⟩) | (go_at_call 42; (with_reducible refine (spec_TakesRight.calls a0 t207 false _ A34.out).mono ?_); rintro e w' ⟨rfl, ⟨nd, rfl⟩⟩))
                                go_roundg k2
                                case measure => have := HJ2.out; have := HK2.out; omega
                                case rel => exact ⟨(wrap64 (x30_2 + 1)), (by first | rfl | (simp; done) | (simp [*]; done)), H', ⟨by have := HJ2.out; have := HK2.out; omega⟩, ⟨by (with_reducible repeat (first | apply Kd.R_alloc | apply Kd.R_drewN | apply Kd.R_drew)); exact Kd.R_mono (Kd.R_far (p := ⟨gb206, 2, none⟩) (Kd.R_far (p := ⟨gb206, 1, none⟩) (Kd.R_far (p := ⟨gb206, 0, none⟩) (Kd.R_mono HO_5.out (fun k_ hk => (⟨hk, hk.2⟩ : _ ∧ k_ ≠ gb206))) (fun _ hk => hk.2) (.string ((rd_T52 t202 x30_2).f0))) (fun _ hk => hk.2) (.int .i32 ((rd_T52 t202 x30_2).f1))) (fun _ hk => hk.2) (.bool ((rd_T52 t202 x30_2).f2))) (fun _ hk => trivial)⟩, ⟨by (with_reducible repeat (first | apply Kd.R_alloc | apply Kd.R_drewN | apply Kd.R_drew)); exact Kd.R_mono (Kd.R_far (p := ⟨gb206, 2, none⟩) (Kd.R_far (p := ⟨gb206, 1, none⟩) (Kd.R_far (p := ⟨gb206, 0, none⟩) (Kd.R_mono HO_28.out (fun k_ hk => (⟨hk, hk.2⟩ : _ ∧ k_ ≠ gb206))) (fun _ hk => hk.2) (.string ((rd_T52 t202 x30_2).f0))) (fun _ hk => hk.2) (.int .i32 ((rd_T52 t202 x30_2).f1))) (fun _ hk => hk.2) (.bool ((rd_T52 t202 x30_2).f2))) (fun _ hk => trivial)⟩, ⟨by repeat (first | (with_reducible first | exact HB.out | apply below_alloc | apply pw_below_drewN | apply below_drew1 | refine below_set ?_ GE206.out) | exact HB.out)⟩⟩
                            · rw [if_neg c33] at H
                              have c33b0 : (x30_2 == (wrap64 ((t202.length : Int) - 1))) = false := beq_eq_false_iff_ne.mpr c33
                              have c33b1 : (x30_2 != (wrap64 ((t202.length : Int) - 1))) = true := bne_iff_ne.mpr c33
                              have H' := Aside0.mk H
                              clear H
                              have p205 : 0 ≤ (x30_2 : Int) := of_decide_eq_true (by first | (with_reducible assumption) | assumption)
                              have q205 : x30_2 < (t202.length : Int) := of_decide_eq_true (by first | (with_reducible assumption) | assumption)
                              obtain ⟨ad205, e205, hx205_0, hx205_1, hx205_2⟩ := at_T52 (Kd.R_reads' HO_28.out).2.2 x30_2 p205 q205
                              cases e205
                              replace p205 := eq_true p205
                              replace q205 := eq_true q205
                              go_wp2_with (first | ((with_reducible refine gate_dst (N := 7) rfl ?_); (try (refine gate_guard (by rfl) ?_; dsimp only)); refine box_event ?hg (N := 7) ?hd (cs := #[.string (⟨#[]⟩ : ByteArray), .int .i32 0, .bool false]) (t := 52) ?hr ?_; (case hd => rfl); (case hg => rfl); (case hr => first | (go_simp; done) | (go_simp; rfl)); intro gb206 hg w40 hbox hb; have n0_ := Aside0.mk (Kd.R_below (Kd.R_elderB (by (with_reducible repeat (first | apply Kd.R_alloc | apply Kd.R_drewN | apply Kd.R_drew)); exact HO_5.out) gb206 (Nat.le_of_eq hg.symm)) hb); have n1_ := Aside0.mk (Kd.R_below (Kd.R_elderB (by (with_reducible repeat (first | apply Kd.R_alloc | apply Kd.R_drewN | apply Kd.R_drew)); exact HO_28.out) gb206 (Nat.le_of_eq hg.symm)) hb); have n2_ := Aside0.mk (below_step (by repeat (first | (with_reducible first | exact HB.out | apply below_alloc | apply pw_below_drewN | apply below_drew1) | exact HB.out)) hb); have n3_ := Aside0.mk (hbox); have n4_ := Aside0.mk ((by rw [hg]; exact (below_size (by repeat (first | (with_reducible first | exact HB.out | apply below_alloc | apply pw_below_drewN | apply below_drew1) | exact HB.out))) : w.heap.size ≤ gb206)); have n5_ := Aside0.mk ((by rw [hg]; exact (below_size (by repeat (first | (with_reducible first | exact HB.out | apply below_alloc | apply pw_below_drewN | apply below_drew1) | exact HB.out))) : w.heap.size ≤ gb206)); clear HO_5; clear HO_28; clear HB; have HO_5 := n0_; have HO_28 := n1_; have HB := n2_; have BK206 := n3_; have GW206 := n4_; have GE206 := n5_; clear n0_ n1_ n2_ n3_ n4_ n5_; clear hb hbox hg; have hcz41_0 : w40.cell? ⟨gb206, 0, none⟩ = some (.string (⟨#[]⟩ : ByteArray)) := (blk_cell BK206.out 0).trans rfl; have hcz41_1 : w40.cell? ⟨gb206, 1, none⟩ = some (.int .i32 0) := (blk_cell BK206.out 1).trans rfl; have hcz41_2 : w40.cell? ⟨gb206, 2, none⟩ = some (.bool false) := (blk_cell BK206.out 2).trans rfl; have hfz41_0 := blk_frozen BK206.out 0; have hfz41_1 := blk_frozen BK206.out 1; have hfz41_2 := blk_frozen BK206.out 2) | ((with_reducible refine gate_callee (f := 45) rfl ?_); refine goesL_ (some 37) rfl rfl Tryd.func45 (by kernel_rfl) rfl #[.int .i32 ((rd_T52 t202 x30_2).f1)] rfl (by (try simp only [List.map_toArray, List.map_cons, List.map_nil]); first | done | rfl | (simp only [List.length_drop, List.length_take]; rfl)) ?_; (with_reducible refine (spec_SignOf.calls k2 ((rd_T52 t202 x30_2).f1) t207 _ A19.out).mono ?_); rintro e w' ⟨rfl, ⟨nd, rfl⟩⟩; refine ⟨_, rfl, ?_⟩) | (go_at_call 46; (with_reducible refine (spec_Takes.calls k2 a0 t207 false _ A24.out).mono ?_); rintro e w' ⟨rfl, ⟨nd, rfl⟩⟩) | (go_at_call 40; (with_reducible refine (spec_TakesLeft.calls a0 t207 false _ A29.out).mono ?_); rintro e w' ⟨rfl, ⟨nd, rfl⟩⟩))
                              go_roundg k2
                              case measure => have := HJ2.out; have := HK2.out; omega
                              case rel => exact ⟨(wrap64 (x30_2 + 1)), (by first | rfl | (simp; done) | (simp [*]; done)), H', ⟨by have := HJ2.out; have := HK2.out; omega⟩, ⟨by (with_reducible repeat (first | apply Kd.R_alloc | apply Kd.R_drewN | apply Kd.R_drew)); exact Kd.R_mono (Kd.R_far (p := ⟨gb206, 2, none⟩) (Kd.R_far (p := ⟨gb206, 1, none⟩) (Kd.R_far (p := ⟨gb206, 0, none⟩) (Kd.R_mono HO_5.out (fun k_ hk => (⟨hk, hk.2⟩ : _ ∧ k_ ≠ gb206))) (fun _ hk => hk.2) (.string ((rd_T52 t202 x30_2).f0))) (fun _ hk => hk.2) (.int .i32 ((rd_T52 t202 x30_2).f1))) (fun _ hk => hk.2) (.bool ((rd_T52 t202 x30_2).f2))) (fun _ hk => trivial)⟩, ⟨by (with_reducible repeat (first | apply Kd.R_alloc | apply Kd.R_drewN | apply Kd.R_drew)); exact Kd.R_mono (Kd.R_far (p := ⟨gb206, 2, none⟩) (Kd.R_far (p := ⟨gb206, 1, none⟩) (Kd.R_far (p := ⟨gb206, 0, none⟩) (Kd.R_mono HO_28.out (fun k_ hk => (⟨hk, hk.2⟩ : _ ∧ k_ ≠ gb206))) (fun _ hk => hk.2) (.string ((rd_T52 t202 x30_2).f0))) (fun _ hk => hk.2) (.int .i32 ((rd_T52 t202 x30_2).f1))) (fun _ hk => hk.2) (.bool ((rd_T52 t202 x30_2).f2))) (fun _ hk => trivial)⟩, ⟨by repeat (first | (with_reducible first | exact HB.out | apply below_alloc | apply pw_below_drewN | apply below_drew1 | refine below_set ?_ GE206.out) | exact HB.out)⟩⟩
                        · rw [if_neg c28] at H
                          have c28b0 : (x30_2 == 0) = false := beq_eq_false_iff_ne.mpr c28
                          have c28b1 : (x30_2 != 0) = true := bne_iff_ne.mpr c28
                          by_cases c42 : x30_2 = (wrap64 ((t202.length : Int) - 1))
                          · rw [if_pos c42] at H
                            have c42b0 : (x30_2 == (wrap64 ((t202.length : Int) - 1))) = true := beq_iff_eq.mpr c42
                            have c42b1 : (x30_2 != (wrap64 ((t202.length : Int) - 1))) = false := bne_eq_false_iff_eq.mpr c42
                            clear c42
                            replace H := Option.bind_eq_some_iff.mp H
                            obtain ⟨t211, A430, H⟩ := H
                            replace H : (if t211 = true then (some false) else (laws_encNothing.l0 k2 a0 t202 t202 (t202.length : Int) (wrap64 (x30_2 + 1)))) = some r := H
                            have A43 := Aside0.mk A430
                            clear A430
                            by_cases c44 : t211 = true
                            · subst c44
                              have H1 : (some false) = some r := by rw [if_pos rfl] at H; exact H
                              clear H
                              have H := H1
                              clear H1
                              obtain rfl := Option.some.inj H
                              have p205 : 0 ≤ (x30_2 : Int) := of_decide_eq_true (by first | (with_reducible assumption) | assumption)
                              have q205 : x30_2 < (t202.length : Int) := of_decide_eq_true (by first | (with_reducible assumption) | assumption)
                              obtain ⟨ad205, e205, hx205_0, hx205_1, hx205_2⟩ := at_T52 (Kd.R_reads' HO_28.out).2.2 x30_2 p205 q205
                              cases e205
                              replace p205 := eq_true p205
                              replace q205 := eq_true q205
                              go_wp2_with (first | ((with_reducible refine gate_dst (N := 7) rfl ?_); (try (refine gate_guard (by rfl) ?_; dsimp only)); refine box_event ?hg (N := 7) ?hd (cs := #[.string (⟨#[]⟩ : ByteArray), .int .i32 0, .bool false]) (t := 52) ?hr ?_; (case hd => rfl); (case hg => rfl); (case hr => first | (go_simp; done) | (go_simp; rfl)); intro gb206 hg w45 hbox hb; have n0_ := Aside0.mk (Kd.R_below (Kd.R_elderB (by (with_reducible repeat (first | apply Kd.R_alloc | apply Kd.R_drewN | apply Kd.R_drew)); exact HO_5.out) gb206 (Nat.le_of_eq hg.symm)) hb); have n1_ := Aside0.mk (Kd.R_below (Kd.R_elderB (by (with_reducible repeat (first | apply Kd.R_alloc | apply Kd.R_drewN | apply Kd.R_drew)); exact HO_28.out) gb206 (Nat.le_of_eq hg.symm)) hb); have n2_ := Aside0.mk (below_step (by repeat (first | (with_reducible first | exact HB.out | apply below_alloc | apply pw_below_drewN | apply below_drew1) | exact HB.out)) hb); have n3_ := Aside0.mk (hbox); have n4_ := Aside0.mk ((by rw [hg]; exact (below_size (by repeat (first | (with_reducible first | exact HB.out | apply below_alloc | apply pw_below_drewN | apply below_drew1) | exact HB.out))) : w.heap.size ≤ gb206)); have n5_ := Aside0.mk ((by rw [hg]; exact (below_size (by repeat (first | (with_reducible first | exact HB.out | apply below_alloc | apply pw_below_drewN | apply below_drew1) | exact HB.out))) : w.heap.size ≤ gb206)); clear HO_5; clear HO_28; clear HB; have HO_5 := n0_; have HO_28 := n1_; have HB := n2_; have BK206 := n3_; have GW206 := n4_; have GE206 := n5_; clear n0_ n1_ n2_ n3_ n4_ n5_; clear hb hbox hg; have hcz46_0 : w45.cell? ⟨gb206, 0, none⟩ = some (.string (⟨#[]⟩ : ByteArray)) := (blk_cell BK206.out 0).trans rfl; have hcz46_1 : w45.cell? ⟨gb206, 1, none⟩ = some (.int .i32 0) := (blk_cell BK206.out 1).trans rfl; have hcz46_2 : w45.cell? ⟨gb206, 2, none⟩ = some (.bool false) := (blk_cell BK206.out 2).trans rfl; have hfz46_0 := blk_frozen BK206.out 0; have hfz46_1 := blk_frozen BK206.out 1; have hfz46_2 := blk_frozen BK206.out 2) | ((with_reducible refine gate_callee (f := 45) rfl ?_); refine goesL_ (some 37) rfl rfl Tryd.func45 (by kernel_rfl) rfl #[.int .i32 ((rd_T52 t202 x30_2).f1)] rfl (by (try simp only [List.map_toArray, List.map_cons, List.map_nil]); first | done | rfl | (simp only [List.length_drop, List.length_take]; rfl)) ?_; (with_reducible refine (spec_SignOf.calls k2 ((rd_T52 t202 x30_2).f1) t207 _ A19.out).mono ?_); rintro e w' ⟨rfl, ⟨nd, rfl⟩⟩; refine ⟨_, rfl, ?_⟩) | (go_at_call 46; (with_reducible refine (spec_Takes.calls k2 a0 t207 false _ A24.out).mono ?_); rintro e w' ⟨rfl, ⟨nd, rfl⟩⟩) | (go_at_call 42; (with_reducible refine (spec_TakesRight.calls a0 t207 true _ A43.out).mono ?_); rintro e w' ⟨rfl, ⟨nd, rfl⟩⟩))
                              go_ret
                              exact ⟨by first | rfl | (simp [errW_none, errW_some] <;> rfl) | (simp [*, errW_none, errW_some] <;> rfl), by repeat (first | (with_reducible first | exact HB.out | apply below_alloc | apply pw_below_drewN | apply below_drew1 | refine below_set ?_ GE206.out) | exact HB.out)⟩
                            · replace c44 := Bool.eq_false_iff.mpr c44
                              subst c44
                              have H1 : (laws_encNothing.l0 k2 a0 t202 t202 (t202.length : Int) (wrap64 (x30_2 + 1))) = some r := by rw [if_neg (show ¬ (false = true) by decide)] at H; exact H
                              clear H
                              have H := H1
                              clear H1
                              have H' := Aside0.mk H
                              clear H
                              have p205 : 0 ≤ (x30_2 : Int) := of_decide_eq_true (by first | (with_reducible assumption) | assumption)
                              have q205 : x30_2 < (t202.length : Int) := of_decide_eq_true (by first | (with_reducible assumption) | assumption)
                              obtain ⟨ad205, e205, hx205_0, hx205_1, hx205_2⟩ := at_T52 (Kd.R_reads' HO_28.out).2.2 x30_2 p205 q205
                              cases e205
                              replace p205 := eq_true p205
                              replace q205 := eq_true q205
                              go_wp2_with (first | ((with_reducible refine gate_dst (N := 7) rfl ?_); (try (refine gate_guard (by rfl) ?_; dsimp only)); refine box_event ?hg (N := 7) ?hd (cs := #[.string (⟨#[]⟩ : ByteArray), .int .i32 0, .bool false]) (t := 52) ?hr ?_; (case hd => rfl); (case hg => rfl); (case hr => first | (go_simp; done) | (go_simp; rfl)); intro gb206 hg w47 hbox hb; have n0_ := Aside0.mk (Kd.R_below (Kd.R_elderB (by (with_reducible repeat (first | apply Kd.R_alloc | apply Kd.R_drewN | apply Kd.R_drew)); exact HO_5.out) gb206 (Nat.le_of_eq hg.symm)) hb); have n1_ := Aside0.mk (Kd.R_below (Kd.R_elderB (by (with_reducible repeat (first | apply Kd.R_alloc | apply Kd.R_drewN | apply Kd.R_drew)); exact HO_28.out) gb206 (Nat.le_of_eq hg.symm)) hb); have n2_ := Aside0.mk (below_step (by repeat (first | (with_reducible first | exact HB.out | apply below_alloc | apply pw_below_drewN | apply below_drew1) | exact HB.out)) hb); have n3_ := Aside0.mk (hbox); have n4_ := Aside0.mk ((by rw [hg]; exact (below_size (by repeat (first | (with_reducible first | exact HB.out | apply below_alloc | apply pw_below_drewN | apply below_drew1) | exact HB.out))) : w.heap.size ≤ gb206)); have n5_ := Aside0.mk ((by rw [hg]; exact (below_size (by repeat (first | (with_reducible first | exact HB.out | apply below_alloc | apply pw_below_drewN | apply below_drew1) | exact HB.out))) : w.heap.size ≤ gb206)); clear HO_5; clear HO_28; clear HB; have HO_5 := n0_; have HO_28 := n1_; have HB := n2_; have BK206 := n3_; have GW206 := n4_; have GE206 := n5_; clear n0_ n1_ n2_ n3_ n4_ n5_; clear hb hbox hg; have hcz48_0 : w47.cell? ⟨gb206, 0, none⟩ = some (.string (⟨#[]⟩ : ByteArray)) := (blk_cell BK206.out 0).trans rfl; have hcz48_1 : w47.cell? ⟨gb206, 1, none⟩ = some (.int .i32 0) := (blk_cell BK206.out 1).trans rfl; have hcz48_2 : w47.cell? ⟨gb206, 2, none⟩ = some (.bool false) := (blk_cell BK206.out 2).trans rfl; have hfz48_0 := blk_frozen BK206.out 0; have hfz48_1 := blk_frozen BK206.out 1; have hfz48_2 := blk_frozen BK206.out 2) | ((with_reducible refine gate_callee (f := 45) rfl ?_); refine goesL_ (some 37) rfl rfl Tryd.func45 (by kernel_rfl) rfl #[.int .i32 ((rd_T52 t202 x30_2).f1)] rfl (by (try simp only [List.map_toArray, List.map_cons, List.map_nil]); first | done | rfl | (simp only [List.length_drop, List.length_take]; rfl)) ?_; (with_reducible refine (spec_SignOf.calls k2 ((rd_T52 t202 x30_2).f1) t207 _ A19.out).mono ?_); rintro e w' ⟨rfl, ⟨nd, rfl⟩⟩; refine ⟨_, rfl, ?_⟩) | (go_at_call 46; (with_reducible refine (spec_Takes.calls k2 a0 t207 false _ A24.out).mono ?_); rintro e w' ⟨rfl, ⟨nd, rfl⟩⟩) | (go_at_call 42; (with_reducible refine (spec_TakesRight.calls a0 t207 false _ A43.out).mono ?_); rintro e w' ⟨rfl, ⟨nd, rfl⟩⟩))
                              go_roundg k2
                              case measure => have := HJ2.out; have := HK2.out; omega
                              case rel => exact ⟨(wrap64 (x30_2 + 1)), (by first | rfl | (simp; done) | (simp [*]; done)), H', ⟨by have := HJ2.out; have := HK2.out; omega⟩, ⟨by (with_reducible repeat (first | apply Kd.R_alloc | apply Kd.R_drewN | apply Kd.R_drew)); exact Kd.R_mono (Kd.R_far (p := ⟨gb206, 2, none⟩) (Kd.R_far (p := ⟨gb206, 1, none⟩) (Kd.R_far (p := ⟨gb206, 0, none⟩) (Kd.R_mono HO_5.out (fun k_ hk => (⟨hk, hk.2⟩ : _ ∧ k_ ≠ gb206))) (fun _ hk => hk.2) (.string ((rd_T52 t202 x30_2).f0))) (fun _ hk => hk.2) (.int .i32 ((rd_T52 t202 x30_2).f1))) (fun _ hk => hk.2) (.bool ((rd_T52 t202 x30_2).f2))) (fun _ hk => trivial)⟩, ⟨by (with_reducible repeat (first | apply Kd.R_alloc | apply Kd.R_drewN | apply Kd.R_drew)); exact Kd.R_mono (Kd.R_far (p := ⟨gb206, 2, none⟩) (Kd.R_far (p := ⟨gb206, 1, none⟩) (Kd.R_far (p := ⟨gb206, 0, none⟩) (Kd.R_mono HO_28.out (fun k_ hk => (⟨hk, hk.2⟩ : _ ∧ k_ ≠ gb206))) (fun _ hk => hk.2) (.string ((rd_T52 t202 x30_2).f0))) (fun _ hk => hk.2) (.int .i32 ((rd_T52 t202 x30_2).f1))) (fun _ hk => hk.2) (.bool ((rd_T52 t202 x30_2).f2))) (fun _ hk => trivial)⟩, ⟨by repeat (first | (with_reducible first | exact HB.out | apply below_alloc | apply pw_below_drewN | apply below_drew1 | refine below_set ?_ GE206.out) | exact HB.out)⟩⟩
                          · rw [if_neg c42] at H
                            have c42b0 : (x30_2 == (wrap64 ((t202.length : Int) - 1))) = false := beq_eq_false_iff_ne.mpr c42
                            have c42b1 : (x30_2 != (wrap64 ((t202.length : Int) - 1))) = true := bne_iff_ne.mpr c42
                            have H' := Aside0.mk H
                            clear H
                            have p205 : 0 ≤ (x30_2 : Int) := of_decide_eq_true (by first | (with_reducible assumption) | assumption)
                            have q205 : x30_2 < (t202.length : Int) := of_decide_eq_true (by first | (with_reducible assumption) | assumption)
                            obtain ⟨ad205, e205, hx205_0, hx205_1, hx205_2⟩ := at_T52 (Kd.R_reads' HO_28.out).2.2 x30_2 p205 q205
                            cases e205
                            replace p205 := eq_true p205
                            replace q205 := eq_true q205
                            go_wp2_with (first | ((with_reducible refine gate_dst (N := 7) rfl ?_); (try (refine gate_guard (by rfl) ?_; dsimp only)); refine box_event ?hg (N := 7) ?hd (cs := #[.string (⟨#[]⟩ : ByteArray), .int .i32 0, .bool false]) (t := 52) ?hr ?_; (case hd => rfl); (case hg => rfl); (case hr => first | (go_simp; done) | (go_simp; rfl)); intro gb206 hg w49 hbox hb; have n0_ := Aside0.mk (Kd.R_below (Kd.R_elderB (by (with_reducible repeat (first | apply Kd.R_alloc | apply Kd.R_drewN | apply Kd.R_drew)); exact HO_5.out) gb206 (Nat.le_of_eq hg.symm)) hb); have n1_ := Aside0.mk (Kd.R_below (Kd.R_elderB (by (with_reducible repeat (first | apply Kd.R_alloc | apply Kd.R_drewN | apply Kd.R_drew)); exact HO_28.out) gb206 (Nat.le_of_eq hg.symm)) hb); have n2_ := Aside0.mk (below_step (by repeat (first | (with_reducible first | exact HB.out | apply below_alloc | apply pw_below_drewN | apply below_drew1) | exact HB.out)) hb); have n3_ := Aside0.mk (hbox); have n4_ := Aside0.mk ((by rw [hg]; exact (below_size (by repeat (first | (with_reducible first | exact HB.out | apply below_alloc | apply pw_below_drewN | apply below_drew1) | exact HB.out))) : w.heap.size ≤ gb206)); have n5_ := Aside0.mk ((by rw [hg]; exact (below_size (by repeat (first | (with_reducible first | exact HB.out | apply below_alloc | apply pw_below_drewN | apply below_drew1) | exact HB.out))) : w.heap.size ≤ gb206)); clear HO_5; clear HO_28; clear HB; have HO_5 := n0_; have HO_28 := n1_; have HB := n2_; have BK206 := n3_; have GW206 := n4_; have GE206 := n5_; clear n0_ n1_ n2_ n3_ n4_ n5_; clear hb hbox hg; have hcz50_0 : w49.cell? ⟨gb206, 0, none⟩ = some (.string (⟨#[]⟩ : ByteArray)) := (blk_cell BK206.out 0).trans rfl; have hcz50_1 : w49.cell? ⟨gb206, 1, none⟩ = some (.int .i32 0) := (blk_cell BK206.out 1).trans rfl; have hcz50_2 : w49.cell? ⟨gb206, 2, none⟩ = some (.bool false) := (blk_cell BK206.out 2).trans rfl; have hfz50_0 := blk_frozen BK206.out 0; have hfz50_1 := blk_frozen BK206.out 1; have hfz50_2 := blk_frozen BK206.out 2) | ((with_reducible refine gate_callee (f := 45) rfl ?_); refine goesL_ (some 37) rfl rfl Tryd.func45 (by kernel_rfl) rfl #[.int .i32 ((rd_T52 t202 x30_2).f1)] rfl (by (try simp only [List.map_toArray, List.map_cons, List.map_nil]); first | done | rfl | (simp only [List.length_drop, List.length_take]; rfl)) ?_; (with_reducible refine (spec_SignOf.calls k2 ((rd_T52 t202 x30_2).f1) t207 _ A19.out).mono ?_); rintro e w' ⟨rfl, ⟨nd, rfl⟩⟩; refine ⟨_, rfl, ?_⟩) | (go_at_call 46; (with_reducible refine (spec_Takes.calls k2 a0 t207 false _ A24.out).mono ?_); rintro e w' ⟨rfl, ⟨nd, rfl⟩⟩))
                            go_roundg k2
                            case measure => have := HJ2.out; have := HK2.out; omega
                            case rel => exact ⟨(wrap64 (x30_2 + 1)), (by first | rfl | (simp; done) | (simp [*]; done)), H', ⟨by have := HJ2.out; have := HK2.out; omega⟩, ⟨by (with_reducible repeat (first | apply Kd.R_alloc | apply Kd.R_drewN | apply Kd.R_drew)); exact Kd.R_mono (Kd.R_far (p := ⟨gb206, 2, none⟩) (Kd.R_far (p := ⟨gb206, 1, none⟩) (Kd.R_far (p := ⟨gb206, 0, none⟩) (Kd.R_mono HO_5.out (fun k_ hk => (⟨hk, hk.2⟩ : _ ∧ k_ ≠ gb206))) (fun _ hk => hk.2) (.string ((rd_T52 t202 x30_2).f0))) (fun _ hk => hk.2) (.int .i32 ((rd_T52 t202 x30_2).f1))) (fun _ hk => hk.2) (.bool ((rd_T52 t202 x30_2).f2))) (fun _ hk => trivial)⟩, ⟨by (with_reducible repeat (first | apply Kd.R_alloc | apply Kd.R_drewN | apply Kd.R_drew)); exact Kd.R_mono (Kd.R_far (p := ⟨gb206, 2, none⟩) (Kd.R_far (p := ⟨gb206, 1, none⟩) (Kd.R_far (p := ⟨gb206, 0, none⟩) (Kd.R_mono HO_28.out (fun k_ hk => (⟨hk, hk.2⟩ : _ ∧ k_ ≠ gb206))) (fun _ hk => hk.2) (.string ((rd_T52 t202 x30_2).f0))) (fun _ hk => hk.2) (.int .i32 ((rd_T52 t202 x30_2).f1))) (fun _ hk => hk.2) (.bool ((rd_T52 t202 x30_2).f2))) (fun _ hk => trivial)⟩, ⟨by repeat (first | (with_reducible first | exact HB.out | apply below_alloc | apply pw_below_drewN | apply below_drew1 | refine below_set ?_ GE206.out) | exact HB.out)⟩⟩
                    · rw [if_neg c23] at H
                      have c23b0 : decide (0 ≤ t207) = false := decide_eq_false c23
                      clear c23
                      have H' := Aside0.mk H
                      clear H
                      have p205 : 0 ≤ (x30_2 : Int) := of_decide_eq_true (by first | (with_reducible assumption) | assumption)
                      have q205 : x30_2 < (t202.length : Int) := of_decide_eq_true (by first | (with_reducible assumption) | assumption)
                      obtain ⟨ad205, e205, hx205_0, hx205_1, hx205_2⟩ := at_T52 (Kd.R_reads' HO_28.out).2.2 x30_2 p205 q205
                      cases e205
                      replace p205 := eq_true p205
                      replace q205 := eq_true q205
                      go_wp2_with (first | ((with_reducible refine gate_dst (N := 7) rfl ?_); (try (refine gate_guard (by rfl) ?_; dsimp only)); refine box_event ?hg (N := 7) ?hd (cs := #[.string (⟨#[]⟩ : ByteArray), .int .i32 0, .bool false]) (t := 52) ?hr ?_; (case hd => rfl); (case hg => rfl); (case hr => first | (go_simp; done) | (go_simp; rfl)); intro gb206 hg w51 hbox hb; have n0_ := Aside0.mk (Kd.R_below (Kd.R_elderB (by (with_reducible repeat (first | apply Kd.R_alloc | apply Kd.R_drewN | apply Kd.R_drew)); exact HO_5.out) gb206 (Nat.le_of_eq hg.symm)) hb); have n1_ := Aside0.mk (Kd.R_below (Kd.R_elderB (by (with_reducible repeat (first | apply Kd.R_alloc | apply Kd.R_drewN | apply Kd.R_drew)); exact HO_28.out) gb206 (Nat.le_of_eq hg.symm)) hb); have n2_ := Aside0.mk (below_step (by repeat (first | (with_reducible first | exact HB.out | apply below_alloc | apply pw_below_drewN | apply below_drew1) | exact HB.out)) hb); have n3_ := Aside0.mk (hbox); have n4_ := Aside0.mk ((by rw [hg]; exact (below_size (by repeat (first | (with_reducible first | exact HB.out | apply below_alloc | apply pw_below_drewN | apply below_drew1) | exact HB.out))) : w.heap.size ≤ gb206)); have n5_ := Aside0.mk ((by rw [hg]; exact (below_size (by repeat (first | (with_reducible first | exact HB.out | apply below_alloc | apply pw_below_drewN | apply below_drew1) | exact HB.out))) : w.heap.size ≤ gb206)); clear HO_5; clear HO_28; clear HB; have HO_5 := n0_; have HO_28 := n1_; have HB := n2_; have BK206 := n3_; have GW206 := n4_; have GE206 := n5_; clear n0_ n1_ n2_ n3_ n4_ n5_; clear hb hbox hg; have hcz52_0 : w51.cell? ⟨gb206, 0, none⟩ = some (.string (⟨#[]⟩ : ByteArray)) := (blk_cell BK206.out 0).trans rfl; have hcz52_1 : w51.cell? ⟨gb206, 1, none⟩ = some (.int .i32 0) := (blk_cell BK206.out 1).trans rfl; have hcz52_2 : w51.cell? ⟨gb206, 2, none⟩ = some (.bool false) := (blk_cell BK206.out 2).trans rfl; have hfz52_0 := blk_frozen BK206.out 0; have hfz52_1 := blk_frozen BK206.out 1; have hfz52_2 := blk_frozen BK206.out 2) | ((with_reducible refine gate_callee (f := 45) rfl ?_); refine goesL_ (some 37) rfl rfl Tryd.func45 (by kernel_rfl) rfl #[.int .i32 ((rd_T52 t202 x30_2).f1)] rfl (by (try simp only [List.map_toArray, List.map_cons, List.map_nil]); first | done | rfl | (simp only [List.length_drop, List.length_take]; rfl)) ?_; (with_reducible refine (spec_SignOf.calls k2 ((rd_T52 t202 x30_2).f1) t207 _ A19.out).mono ?_); rintro e w' ⟨rfl, ⟨nd, rfl⟩⟩; refine ⟨_, rfl, ?_⟩))
                      go_roundg k2
                      case measure => have := HJ2.out; have := HK2.out; omega
                      case rel => exact ⟨(wrap64 (x30_2 + 1)), (by first | rfl | (simp; done) | (simp [*]; done)), H', ⟨by have := HJ2.out; have := HK2.out; omega⟩, ⟨by (with_reducible repeat (first | apply Kd.R_alloc | apply Kd.R_drewN | apply Kd.R_drew)); exact Kd.R_mono (Kd.R_far (p := ⟨gb206, 2, none⟩) (Kd.R_far (p := ⟨gb206, 1, none⟩) (Kd.R_far (p := ⟨gb206, 0, none⟩) (Kd.R_mono HO_5.out (fun k_ hk => (⟨hk, hk.2⟩ : _ ∧ k_ ≠ gb206))) (fun _ hk => hk.2) (.string ((rd_T52 t202 x30_2).f0))) (fun _ hk => hk.2) (.int .i32 ((rd_T52 t202 x30_2).f1))) (fun _ hk => hk.2) (.bool ((rd_T52 t202 x30_2).f2))) (fun _ hk => trivial)⟩, ⟨by (with_reducible repeat (first | apply Kd.R_alloc | apply Kd.R_drewN | apply Kd.R_drew)); exact Kd.R_mono (Kd.R_far (p := ⟨gb206, 2, none⟩) (Kd.R_far (p := ⟨gb206, 1, none⟩) (Kd.R_far (p := ⟨gb206, 0, none⟩) (Kd.R_mono HO_28.out (fun k_ hk => (⟨hk, hk.2⟩ : _ ∧ k_ ≠ gb206))) (fun _ hk => hk.2) (.string ((rd_T52 t202 x30_2).f0))) (fun _ hk => hk.2) (.int .i32 ((rd_T52 t202 x30_2).f1))) (fun _ hk => hk.2) (.bool ((rd_T52 t202 x30_2).f2))) (fun _ hk => trivial)⟩, ⟨by repeat (first | (with_reducible first | exact HB.out | apply below_alloc | apply pw_below_drewN | apply below_drew1 | refine below_set ?_ GE206.out) | exact HB.out)⟩⟩
                · rw [if_neg c18] at H
                  exact absurd H (by simp)
              · rw [if_neg c17] at H
                exact absurd H (by simp)
            · rw [if_neg c16] at H
              have c16b0 : decide (x30_2 < (t202.length : Int)) = false := decide_eq_false c16
              clear c16
              obtain rfl := Option.some.inj H
              go_wp2
              go_ret
              exact ⟨by first | rfl | (simp [errW_none, errW_some] <;> rfl) | (simp [*, errW_none, errW_some] <;> rfl), by repeat (first | (with_reducible first | exact HB.out | apply below_alloc | apply pw_below_drewN | apply below_drew1) | exact HB.out)⟩
end Go.Proofs.YtonmnpmklkbioaaDoor.PM
