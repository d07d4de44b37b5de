-- Written by a program of this session.
import Derived.Test.YtkdmdoflfaldiaaPTx0
import Derived.Test.YtkdmdoflfaldiaaPTx1
import Derived.Test.YtkdmdoflfaldiaaPTx2
namespace Go.Proofs.Ytkdmdoflfaldiaa.PT
open Go.RowKit Go.Proofs.YtkdmdoflfaldiaaW.PrintWords Go.Proofs.YtkdmdoflfaldiaaW.PrintLast Go.Proofs.YtkdmdoflfaldiaaW.PrintMore Go.Proofs.Ytkdmdoflfaldiaa.Given
attribute [local go_sem] max2_int min2_int max_two min_two max_three min_three max_four min_four   -- for this text's walks alone
set_option linter.unusedVariables false
set_option linter.unusedSimpArgs false

/-! ### spec_PathSafe: function 15 -/
def spec_PathSafe.l0 : Nat → ByteArray → Option (ByteArray × Bool)
  | 0, _ => none
  | k + 1, x2 => if x2.toList = ([] : List UInt8) then (if x2.toList = ([46] : List UInt8) then (some ((⟨#[]⟩ : ByteArray), true)) else (some (x2, true))) else (if 0 < (x2.size : Int) then (if (bt x2 0) = 47 then (if 1 ≤ (x2.size : Int) then (spec_PathSafe.l0 k (x2.extract 1 x2.size)) else (none)) else (if x2.toList = ([46] : List UInt8) then (some ((⟨#[]⟩ : ByteArray), true)) else (some (x2, true)))) else (none))
def spec_PathSafe.f (k : Nat) (a0 : ByteArray) : Option (ByteArray × Bool) := (spec_DotDot.f k a0).bind fun t126 => (if t126 = true then (some ((⟨#[]⟩ : ByteArray), false)) else ((spec_PathClean.f k a0).bind fun t127 => (spec_PathSafe.l0 k t127)))
theorem spec_PathSafe.mono_l : ∀ k, (∀ y0, LeO (spec_PathSafe.l0 k y0) (spec_PathSafe.l0 (k + 1) y0))
  | 0 => fun _ r h => by simp [spec_PathSafe.l0] at h
  | k + 1 => by
    have ih0 := spec_PathSafe.mono_l k
    · intro y0
      unfold spec_PathSafe.l0
      repeat' first
      | (with_reducible exact ih0 _)
      | (with_reducible exact spec_DotDot.mono _ _)
      | (with_reducible exact spec_PathClean.mono _ _)
      | (with_reducible exact LeO.refl _)
      | (with_reducible exact LeO.none _)
      | (with_reducible refine LeO.ite ?_ ?_)
      | (with_reducible refine LeO.bind ?_ (fun _ => ?_))
      | exact ih0 _
      | exact spec_DotDot.mono _ _
      | exact spec_PathClean.mono _ _
      | exact LeO.none _
      | refine LeO.ite ?_ ?_
      | refine LeO.bind ?_ (fun _ => ?_)
theorem spec_PathSafe.mono : ∀ a0 k, LeO (spec_PathSafe.f k a0) (spec_PathSafe.f (k + 1) a0) := by
  intro a0 k
  have ih0 := spec_PathSafe.mono_l k
  unfold spec_PathSafe.f
  repeat' first
      | (with_reducible exact ih0 _)
      | (with_reducible exact spec_DotDot.mono _ _)
      | (with_reducible exact spec_PathClean.mono _ _)
      | (with_reducible exact LeO.refl _)
      | (with_reducible exact LeO.none _)
      | (with_reducible refine LeO.ite ?_ ?_)
      | (with_reducible refine LeO.bind ?_ (fun _ => ?_))
      | exact ih0 _
      | exact spec_DotDot.mono _ _
      | exact spec_PathClean.mono _ _
      | exact LeO.none _
      | refine LeO.ite ?_ ?_
      | refine LeO.bind ?_ (fun _ => ?_)
set_option maxHeartbeats 8000000 in
set_option maxRecDepth 100000 in
theorem spec_PathSafe.calls (k : Nat) (a0 : ByteArray) (r1 : ByteArray) (r2 : Bool) (w : World) (h : spec_PathSafe.f k a0 = some (r1, r2)) :
    Calls Try.prog 15 #[.string a0] w fun e w' => e = .returned (.tuple #[.string r1, .bool r2]) ∧ Below w.heap.size w w' := by
  have HB := Aside0.mk (Below.refl w.heap.size w)
  have H : ((spec_DotDot.f k a0).bind fun t126 => (if t126 = true then (some ((⟨#[]⟩ : ByteArray), false)) else ((spec_PathClean.f k a0).bind fun t127 => (spec_PathSafe.l0 k t127)))) = some (r1, r2) := h
  clear h
  replace H := Option.bind_eq_some_iff.mp H
  obtain ⟨t126, A20, H⟩ := H
  replace H : (if t126 = true then (some ((⟨#[]⟩ : ByteArray), false)) else ((spec_PathClean.f k a0).bind fun t127 => (spec_PathSafe.l0 k t127))) = some (r1, r2) := H
  have A2 := Aside0.mk A20
  clear A20
  by_cases c3 : t126 = true
  · subst c3
    have H1 : (some ((⟨#[]⟩ : ByteArray), false)) = some (r1, r2) := by rw [if_pos rfl] at H; exact H
    clear H
    have H := H1
    clear H1
    simp only [Option.some.injEq, Prod.mk.injEq] at H
    obtain ⟨rfl, rfl⟩ := H
    go_enter Try.func15, Try.ntmps15
    go_wp2_with (first | ((with_reducible refine gate_callee (f := 30) rfl ?_); refine goesL_ (some 5) rfl rfl Try.func30 (by kernel_rfl) rfl #[.string a0] rfl (by (try simp only [List.map_toArray, List.map_cons, List.map_nil]); first | done | rfl | (simp only [List.length_drop, List.length_take]; rfl)) ?_; (with_reducible refine (spec_DotDot.calls k a0 true _ A2.out).mono ?_); rintro e w' ⟨rfl, ⟨nd, rfl⟩⟩; refine ⟨_, rfl, ?_⟩))
    go_ret2
    exact ⟨by first | rfl | (simp [errW_none, errW_some] <;> rfl) | (simp [*, errW_none, errW_some] <;> rfl), by repeat (first | (with_reducible first | exact HB.out | apply below_alloc | apply pw_below_drewN | apply below_drew1) | exact HB.out)⟩
  · replace c3 := Bool.eq_false_iff.mpr c3
    subst c3
    have H1 : ((spec_PathClean.f k a0).bind fun t127 => (spec_PathSafe.l0 k t127)) = some (r1, r2) := by rw [if_neg (show ¬ (false = true) by decide)] at H; exact H
    clear H
    have H := H1
    clear H1
    replace H := Option.bind_eq_some_iff.mp H
    obtain ⟨t127, A40, H⟩ := H
    replace H : (spec_PathSafe.l0 k t127) = some (r1, r2) := H
    have A4 := Aside0.mk A40
    clear A40
    have H' := Aside0.mk H
    clear H
    go_enter Try.func15, Try.ntmps15
    go_wp2_with (first | ((with_reducible refine gate_callee (f := 30) rfl ?_); refine goesL_ (some 5) rfl rfl Try.func30 (by kernel_rfl) rfl #[.string a0] rfl (by (try simp only [List.map_toArray, List.map_cons, List.map_nil]); first | done | rfl | (simp only [List.length_drop, List.length_take]; rfl)) ?_; (with_reducible refine (spec_DotDot.calls k a0 false _ A2.out).mono ?_); rintro e w' ⟨rfl, ⟨nd, rfl⟩⟩; refine ⟨_, rfl, ?_⟩) | ((with_reducible refine gate_callee (f := 31) rfl ?_); refine goesL_ (some 7) rfl rfl Try.func31 (by kernel_rfl) rfl #[.string a0] rfl (by (try simp only [List.map_toArray, List.map_cons, List.map_nil]); first | done | rfl | (simp only [List.length_drop, List.length_take]; rfl)) ?_; (with_reducible refine (spec_PathClean.calls k a0 t127 _ A4.out).mono ?_); rintro e w5 ⟨rfl, hb⟩; refine ⟨_, rfl, ?_⟩; have n0_ := Aside0.mk (below_step (by repeat (first | (with_reducible first | exact HB.out | apply below_alloc | apply pw_below_drewN | apply below_drew1) | exact HB.out)) hb); clear HB; have HB := n0_; clear n0_; (try clear hb); (try clear hb2); (try clear hk); (try clear hi)))
    go_loopg [2] k (fun kq v2 w' => ∃ (x2_1 : ByteArray), v2 = .string x2_1 ∧ Aside0 (spec_PathSafe.l0 kq x2_1 = some (r1, r2)) ∧ Aside0 (kq ≤ k) ∧ Aside0 (Below w.heap.size w w'))
    case atStart => exact ⟨(t127), (by first | rfl | (simp; done) | (simp [*]; done)), H', ⟨Nat.le_refl _⟩, ⟨by repeat (first | (with_reducible first | exact HB.out | apply below_alloc | apply pw_below_drewN | apply below_drew1) | exact HB.out)⟩⟩
    case round =>
      clear H'
      try clear c1
      try clear p2
      try clear c3
      obtain ⟨x2_1, rfl, HA, HK1, HB⟩ := hrel
      cases gk with
      | zero => exact absurd HA.out (by simp [spec_PathSafe.l0])
      | succ k1 =>
        have H := HA.out
        clear HA
        simp only [spec_PathSafe.l0] at H
        by_cases c6 : x2_1.toList = ([] : List UInt8)
        · rw [if_pos c6] at H
          have c6b0 : (x2_1.toList == ([] : List UInt8)) = true := beq_iff_eq.mpr c6
          have c6b1 : (x2_1.toList != ([] : List UInt8)) = false := bne_eq_false_iff_eq.mpr c6
          clear c6
          by_cases c7 : x2_1.toList = ([46] : List UInt8)
          · rw [if_pos c7] at H
            have c7b0 : (x2_1.toList == ([46] : List UInt8)) = true := beq_iff_eq.mpr c7
            have c7b1 : (x2_1.toList != ([46] : List UInt8)) = false := bne_eq_false_iff_eq.mpr c7
            clear c7
            simp only [Option.some.injEq, Prod.mk.injEq] at H
            obtain ⟨rfl, rfl⟩ := H
            go_wp2
            go_ret2
            exact ⟨by first | rfl | (simp [errW_none, errW_some] <;> rfl) | (simp [*, errW_none, errW_some] <;> rfl), by repeat (first | (with_reducible first | exact HB.out | apply below_alloc | apply pw_below_drewN | apply below_drew1) | exact HB.out)⟩
          · rw [if_neg c7] at H
            have c7b0 : (x2_1.toList == ([46] : List UInt8)) = false := beq_eq_false_iff_ne.mpr c7
            have c7b1 : (x2_1.toList != ([46] : List UInt8)) = true := bne_iff_ne.mpr c7
            simp only [Option.some.injEq, Prod.mk.injEq] at H
            obtain ⟨rfl, rfl⟩ := H
            go_wp2
            go_ret2
            exact ⟨by first | rfl | (simp [errW_none, errW_some] <;> rfl) | (simp [*, errW_none, errW_some] <;> rfl), by repeat (first | (with_reducible first | exact HB.out | apply below_alloc | apply pw_below_drewN | apply below_drew1) | exact HB.out)⟩
        · rw [if_neg c6] at H
          have c6b0 : (x2_1.toList == ([] : List UInt8)) = false := beq_eq_false_iff_ne.mpr c6
          have c6b1 : (x2_1.toList != ([] : List UInt8)) = true := bne_iff_ne.mpr c6
          by_cases c8 : 0 < (x2_1.size : Int)
          · rw [if_pos c8] at H
            have c8b0 : decide (0 < (x2_1.size : Int)) = true := decide_eq_true c8
            have c8b1 : decide (0 < x2_1.size) = true := decide_eq_true (by omega)
            clear c8
            by_cases c10 : (bt x2_1 0) = 47
            · rw [if_pos c10] at H
              have c10b0 : ((bt x2_1 0) == 47) = true := beq_iff_eq.mpr c10
              have c10b1 : ((bt x2_1 0) != 47) = false := bne_eq_false_iff_eq.mpr c10
              clear c10
              by_cases c11 : 1 ≤ (x2_1.size : Int)
              · rw [if_pos c11] at H
                have c11b0 := eq_true c11
                have c11b1 : decide (1 ≤ (x2_1.size : Int)) = true := decide_eq_true c11
                clear c11
                have H' := Aside0.mk H
                clear H
                have p9 : 0 ≤ (0 : Int) := (by omega)
                have q9 : 0 < x2_1.size := (by have : (0 : Int) < (x2_1.size : Int) := of_decide_eq_true (by first | (with_reducible assumption) | assumption); omega)
                have hx9 : ∀ h : 0 < x2_1.size, ((x2_1[0]'h).toNat : Int) = bt x2_1 0 := bt_at x2_1 0
                clear p9
                have qi9 : (0 < (x2_1.size : Int)) = True := eq_true (of_decide_eq_true (by first | (with_reducible assumption) | assumption))
                replace q9 := eq_true q9
                go_wp2
                go_roundg k1
                case measure => have := HK1.out; omega
                case rel => exact ⟨(x2_1.extract 1 x2_1.size), (by first | rfl | (simp; done) | (simp [*]; done)), H', ⟨by have := HK1.out; omega⟩, ⟨by repeat (first | (with_reducible first | exact HB.out | apply below_alloc | apply pw_below_drewN | apply below_drew1) | exact HB.out)⟩⟩
              · rw [if_neg c11] at H
                exact absurd H (by simp)
            · rw [if_neg c10] at H
              have c10b0 : ((bt x2_1 0) == 47) = false := beq_eq_false_iff_ne.mpr c10
              have c10b1 : ((bt x2_1 0) != 47) = true := bne_iff_ne.mpr c10
              by_cases c12 : x2_1.toList = ([46] : List UInt8)
              · rw [if_pos c12] at H
                have c12b0 : (x2_1.toList == ([46] : List UInt8)) = true := beq_iff_eq.mpr c12
                have c12b1 : (x2_1.toList != ([46] : List UInt8)) = false := bne_eq_false_iff_eq.mpr c12
                clear c12
                simp only [Option.some.injEq, Prod.mk.injEq] at H
                obtain ⟨rfl, rfl⟩ := H
                have p9 : 0 ≤ (0 : Int) := (by omega)
                have q9 : 0 < x2_1.size := (by have : (0 : Int) < (x2_1.size : Int) := of_decide_eq_true (by first | (with_reducible assumption) | assumption); omega)
                have hx9 : ∀ h : 0 < x2_1.size, ((x2_1[0]'h).toNat : Int) = bt x2_1 0 := bt_at x2_1 0
                clear p9
                have qi9 : (0 < (x2_1.size : Int)) = True := eq_true (of_decide_eq_true (by first | (with_reducible assumption) | assumption))
                replace q9 := eq_true q9
                go_wp2
                go_ret2
                exact ⟨by first | rfl | (simp [errW_none, errW_some] <;> rfl) | (simp [*, errW_none, errW_some] <;> rfl), by repeat (first | (with_reducible first | exact HB.out | apply below_alloc | apply pw_below_drewN | apply below_drew1) | exact HB.out)⟩
              · rw [if_neg c12] at H
                have c12b0 : (x2_1.toList == ([46] : List UInt8)) = false := beq_eq_false_iff_ne.mpr c12
                have c12b1 : (x2_1.toList != ([46] : List UInt8)) = true := bne_iff_ne.mpr c12
                simp only [Option.some.injEq, Prod.mk.injEq] at H
                obtain ⟨rfl, rfl⟩ := H
                have p9 : 0 ≤ (0 : Int) := (by omega)
                have q9 : 0 < x2_1.size := (by have : (0 : Int) < (x2_1.size : Int) := of_decide_eq_true (by first | (with_reducible assumption) | assumption); omega)
                have hx9 : ∀ h : 0 < x2_1.size, ((x2_1[0]'h).toNat : Int) = bt x2_1 0 := bt_at x2_1 0
                clear p9
                have qi9 : (0 < (x2_1.size : Int)) = True := eq_true (of_decide_eq_true (by first | (with_reducible assumption) | assumption))
                replace q9 := eq_true q9
                go_wp2
                go_ret2
                exact ⟨by first | rfl | (simp [errW_none, errW_some] <;> rfl) | (simp [*, errW_none, errW_some] <;> rfl), by repeat (first | (with_reducible first | exact HB.out | apply below_alloc | apply pw_below_drewN | apply below_drew1) | exact HB.out)⟩
          · rw [if_neg c8] at H
            exact absurd H (by simp)

/-! ### laws_FnPathSafe: function 6 -/
def laws_FnPathSafe.f (k : Nat) (a0 : ByteArray) : Option (Bool) := if (a0.size : Int) > 2147483647 then (some true) else (if (a0.size : Int) > 5000 then (some true) else ((impl_PathClean.f a0).bind fun bt128 => ((spec_PathSafe.f k a0).bind fun bt130 => ((impl_PathClean.f (⟨#[47, 97, 47, 47, 98, 47, 46, 47, 99, 47]⟩ : ByteArray)).bind fun bt132 => (if (bt128.2 == bt130.2) = true then (if bt128.2 = true then (if bt128.1.toList = bt130.1.toList then (if bt132.2 = true then (some (bt132.1.toList == ([97, 47, 98, 47, 99] : List UInt8))) else (some false)) else (some false)) else (if bt132.2 = true then (some (bt132.1.toList == ([97, 47, 98, 47, 99] : List UInt8))) else (some false))) else (some false))))))
theorem laws_FnPathSafe.mono : ∀ a0 k, LeO (laws_FnPathSafe.f k a0) (laws_FnPathSafe.f (k + 1) a0) := by
  intro a0 k
  unfold laws_FnPathSafe.f
  repeat' first
      | (with_reducible exact spec_PathSafe.mono _ _)
      | (with_reducible exact LeO.refl _)
      | (with_reducible exact LeO.none _)
      | (with_reducible refine LeO.ite ?_ ?_)
      | (with_reducible refine LeO.bind ?_ (fun _ => ?_))
      | exact spec_PathSafe.mono _ _
      | exact LeO.none _
      | refine LeO.ite ?_ ?_
      | refine LeO.bind ?_ (fun _ => ?_)
set_option maxHeartbeats 8000000 in
set_option maxRecDepth 100000 in
theorem laws_FnPathSafe.calls (k : Nat) (a0 : ByteArray) (r : Bool) (w : World) (h : laws_FnPathSafe.f k a0 = some r) :
    Calls Try.prog 6 #[.string a0] w fun e w' => e = .returned (.bool r) ∧ Below w.heap.size w w' := by
  have HB := Aside0.mk (Below.refl w.heap.size w)
  have H : (if (a0.size : Int) > 2147483647 then (some true) else (if (a0.size : Int) > 5000 then (some true) else ((impl_PathClean.f a0).bind fun bt128 => ((spec_PathSafe.f k a0).bind fun bt130 => ((impl_PathClean.f (⟨#[47, 97, 47, 47, 98, 47, 46, 47, 99, 47]⟩ : ByteArray)).bind fun bt132 => (if (bt128.2 == bt130.2) = true then (if bt128.2 = true then (if bt128.1.toList = bt130.1.toList then (if bt132.2 = true then (some (bt132.1.toList == ([97, 47, 98, 47, 99] : List UInt8))) else (some false)) else (some false)) else (if bt132.2 = true then (some (bt132.1.toList == ([97, 47, 98, 47, 99] : List UInt8))) else (some false))) else (some false))))))) = some r := h
  clear h
  by_cases c2 : (a0.size : Int) > 2147483647
  · rw [if_pos c2] at H
    have c2b0 : decide (2147483647 < (a0.size : Int)) = true := decide_eq_true c2
    have c2b1 : decide (2147483647 < a0.size) = true := decide_eq_true (by omega)
    clear c2
    obtain rfl := Option.some.inj H
    go_enter Try.func6, Try.ntmps6
    go_wp2
    go_ret
    exact ⟨by first | rfl | (simp [errW_none, errW_some] <;> rfl) | (simp [*, errW_none, errW_some] <;> rfl), by repeat (first | (with_reducible first | exact HB.out | apply below_alloc | apply pw_below_drewN | apply below_drew1) | exact HB.out)⟩
  · rw [if_neg c2] at H
    have c2b0 : decide (2147483647 < (a0.size : Int)) = false := decide_eq_false c2
    have c2b1 : decide (2147483647 < a0.size) = false := decide_eq_false (by omega)
    clear c2
    by_cases c3 : (a0.size : Int) > 5000
    · rw [if_pos c3] at H
      have c3b0 : decide (5000 < (a0.size : Int)) = true := decide_eq_true c3
      have c3b1 : decide (5000 < a0.size) = true := decide_eq_true (by omega)
      clear c3
      obtain rfl := Option.some.inj H
      go_enter Try.func6, Try.ntmps6
      go_wp2
      go_ret
      exact ⟨by first | rfl | (simp [errW_none, errW_some] <;> rfl) | (simp [*, errW_none, errW_some] <;> rfl), by repeat (first | (with_reducible first | exact HB.out | apply below_alloc | apply pw_below_drewN | apply below_drew1) | exact HB.out)⟩
    · rw [if_neg c3] at H
      have c3b0 : decide (5000 < (a0.size : Int)) = false := decide_eq_false c3
      have c3b1 : decide (5000 < a0.size) = false := decide_eq_false (by omega)
      clear c3
      replace H := Option.bind_eq_some_iff.mp H
      obtain ⟨⟨t128, t129⟩, A40, H⟩ := H
      replace H : ((spec_PathSafe.f k a0).bind fun bt130 => ((impl_PathClean.f (⟨#[47, 97, 47, 47, 98, 47, 46, 47, 99, 47]⟩ : ByteArray)).bind fun bt132 => (if (t129 == bt130.2) = true then (if t129 = true then (if t128.toList = bt130.1.toList then (if bt132.2 = true then (some (bt132.1.toList == ([97, 47, 98, 47, 99] : List UInt8))) else (some false)) else (some false)) else (if bt132.2 = true then (some (bt132.1.toList == ([97, 47, 98, 47, 99] : List UInt8))) else (some false))) else (some false)))) = some r := H
      have A4 := Aside0.mk A40
      clear A40
      replace H := Option.bind_eq_some_iff.mp H
      obtain ⟨⟨t130, t131⟩, A50, H⟩ := H
      replace H : ((impl_PathClean.f (⟨#[47, 97, 47, 47, 98, 47, 46, 47, 99, 47]⟩ : ByteArray)).bind fun bt132 => (if (t129 == t131) = true then (if t129 = true then (if t128.toList = t130.toList then (if bt132.2 = true then (some (bt132.1.toList == ([97, 47, 98, 47, 99] : List UInt8))) else (some false)) else (some false)) else (if bt132.2 = true then (some (bt132.1.toList == ([97, 47, 98, 47, 99] : List UInt8))) else (some false))) else (some false))) = some r := H
      have A5 := Aside0.mk A50
      clear A50
      replace H := Option.bind_eq_some_iff.mp H
      obtain ⟨⟨t132, t133⟩, A60, H⟩ := H
      replace H : (if (t129 == t131) = true then (if t129 = true then (if t128.toList = t130.toList then (if t133 = true then (some (t132.toList == ([97, 47, 98, 47, 99] : List UInt8))) else (some false)) else (some false)) else (if t133 = true then (some (t132.toList == ([97, 47, 98, 47, 99] : List UInt8))) else (some false))) else (some false)) = some r := H
      have A6 := Aside0.mk A60
      clear A60
      by_cases c7 : (t129 == t131) = true
      · rw [if_pos c7] at H
        have c7b0 : (t129 == t131) = true := c7
        (try (have c7b1 : decide (t129 = t131) = true := by simpa using c7))
        (try (have c7b2 : (t129 == t131) = true := by simpa using c7))
        clear c7
        by_cases c8 : t129 = true
        · subst c8
          have H1 : (if t128.toList = t130.toList then (if t133 = true then (some (t132.toList == ([97, 47, 98, 47, 99] : List UInt8))) else (some false)) else (some false)) = some r := by rw [if_pos rfl] at H; exact H
          clear H
          have H := H1
          clear H1
          by_cases c9 : t128.toList = t130.toList
          · rw [if_pos c9] at H
            have c9b0 : (t128.toList == t130.toList) = true := beq_iff_eq.mpr c9
            have c9b1 : (t128.toList != t130.toList) = false := bne_eq_false_iff_eq.mpr c9
            clear c9
            by_cases c10 : t133 = true
            · subst c10
              have H1 : (some (t132.toList == ([97, 47, 98, 47, 99] : List UInt8))) = some r := by rw [if_pos rfl] at H; exact H
              clear H
              have H := H1
              clear H1
              obtain rfl := Option.some.inj H
              go_enter Try.func6, Try.ntmps6
              go_wp2_with (first | ((with_reducible refine gate_callee (f := 14) rfl ?_); refine goesL_ (some 17) rfl rfl Try.func14 (by kernel_rfl) rfl #[.string a0] rfl (by (try simp only [List.map_toArray, List.map_cons, List.map_nil]); first | done | rfl | (simp only [List.length_drop, List.length_take]; rfl)) ?_; (with_reducible refine (impl_PathClean.calls a0 t128 true _ A4.out).mono ?_); rintro e w11 ⟨rfl, hb⟩; refine ⟨_, rfl, ?_⟩; have n0_ := Aside0.mk (below_step (by repeat (first | (with_reducible first | exact HB.out | apply below_alloc | apply pw_below_drewN | apply below_drew1) | exact HB.out)) hb); clear HB; have HB := n0_; clear n0_; (try clear hb); (try clear hb2); (try clear hk); (try clear hi)) | ((with_reducible refine gate_callee (f := 15) rfl ?_); refine goesL_ (some 22) rfl rfl Try.func15 (by kernel_rfl) rfl #[.string a0] rfl (by (try simp only [List.map_toArray, List.map_cons, List.map_nil]); first | done | rfl | (simp only [List.length_drop, List.length_take]; rfl)) ?_; (with_reducible refine (spec_PathSafe.calls k a0 t130 t131 _ A5.out).mono ?_); rintro e w12 ⟨rfl, hb⟩; refine ⟨_, rfl, ?_⟩; have n0_ := Aside0.mk (below_step (by repeat (first | (with_reducible first | exact HB.out | apply below_alloc | apply pw_below_drewN | apply below_drew1) | exact HB.out)) hb); clear HB; have HB := n0_; clear n0_; (try clear hb); (try clear hb2); (try clear hk); (try clear hi)) | ((with_reducible refine gate_callee (f := 14) rfl ?_); refine goesL_ (some 26) rfl rfl Try.func14 (by kernel_rfl) rfl #[.string (⟨#[47, 97, 47, 47, 98, 47, 46, 47, 99, 47]⟩ : ByteArray)] rfl (by (try simp only [List.map_toArray, List.map_cons, List.map_nil]); first | done | rfl | (simp only [List.length_drop, List.length_take]; rfl)) ?_; (with_reducible refine (impl_PathClean.calls (⟨#[47, 97, 47, 47, 98, 47, 46, 47, 99, 47]⟩ : ByteArray) t132 true _ A6.out).mono ?_); rintro e w13 ⟨rfl, hb⟩; refine ⟨_, rfl, ?_⟩; have n0_ := Aside0.mk (below_step (by repeat (first | (with_reducible first | exact HB.out | apply below_alloc | apply pw_below_drewN | apply below_drew1) | exact HB.out)) hb); clear HB; have HB := n0_; clear n0_; (try clear hb); (try clear hb2); (try clear hk); (try clear hi)))
              go_ret
              exact ⟨by first | rfl | (simp [errW_none, errW_some] <;> rfl) | (simp [*, errW_none, errW_some] <;> rfl), by repeat (first | (with_reducible first | exact HB.out | apply below_alloc | apply pw_below_drewN | apply below_drew1) | exact HB.out)⟩
            · replace c10 := Bool.eq_false_iff.mpr c10
              subst c10
              have H1 : (some false) = some r := by rw [if_neg (show ¬ (false = true) by decide)] at H; exact H
              clear H
              have H := H1
              clear H1
              obtain rfl := Option.some.inj H
              go_enter Try.func6, Try.ntmps6
              go_wp2_with (first | ((with_reducible refine gate_callee (f := 14) rfl ?_); refine goesL_ (some 17) rfl rfl Try.func14 (by kernel_rfl) rfl #[.string a0] rfl (by (try simp only [List.map_toArray, List.map_cons, List.map_nil]); first | done | rfl | (simp only [List.length_drop, List.length_take]; rfl)) ?_; (with_reducible refine (impl_PathClean.calls a0 t128 true _ A4.out).mono ?_); rintro e w14 ⟨rfl, hb⟩; refine ⟨_, rfl, ?_⟩; have n0_ := Aside0.mk (below_step (by repeat (first | (with_reducible first | exact HB.out | apply below_alloc | apply pw_below_drewN | apply below_drew1) | exact HB.out)) hb); clear HB; have HB := n0_; clear n0_; (try clear hb); (try clear hb2); (try clear hk); (try clear hi)) | ((with_reducible refine gate_callee (f := 15) rfl ?_); refine goesL_ (some 22) rfl rfl Try.func15 (by kernel_rfl) rfl #[.string a0] rfl (by (try simp only [List.map_toArray, List.map_cons, List.map_nil]); first | done | rfl | (simp only [List.length_drop, List.length_take]; rfl)) ?_; (with_reducible refine (spec_PathSafe.calls k a0 t130 t131 _ A5.out).mono ?_); rintro e w15 ⟨rfl, hb⟩; refine ⟨_, rfl, ?_⟩; have n0_ := Aside0.mk (below_step (by repeat (first | (with_reducible first | exact HB.out | apply below_alloc | apply pw_below_drewN | apply below_drew1) | exact HB.out)) hb); clear HB; have HB := n0_; clear n0_; (try clear hb); (try clear hb2); (try clear hk); (try clear hi)) | ((with_reducible refine gate_callee (f := 14) rfl ?_); refine goesL_ (some 26) rfl rfl Try.func14 (by kernel_rfl) rfl #[.string (⟨#[47, 97, 47, 47, 98, 47, 46, 47, 99, 47]⟩ : ByteArray)] rfl (by (try simp only [List.map_toArray, List.map_cons, List.map_nil]); first | done | rfl | (simp only [List.length_drop, List.length_take]; rfl)) ?_; (with_reducible refine (impl_PathClean.calls (⟨#[47, 97, 47, 47, 98, 47, 46, 47, 99, 47]⟩ : ByteArray) t132 false _ A6.out).mono ?_); rintro e w16 ⟨rfl, hb⟩; refine ⟨_, rfl, ?_⟩; have n0_ := Aside0.mk (below_step (by repeat (first | (with_reducible first | exact HB.out | apply below_alloc | apply pw_below_drewN | apply below_drew1) | exact HB.out)) hb); clear HB; have HB := n0_; clear n0_; (try clear hb); (try clear hb2); (try clear hk); (try clear hi)))
              go_ret
              exact ⟨by first | rfl | (simp [errW_none, errW_some] <;> rfl) | (simp [*, errW_none, errW_some] <;> rfl), by repeat (first | (with_reducible first | exact HB.out | apply below_alloc | apply pw_below_drewN | apply below_drew1) | exact HB.out)⟩
          · rw [if_neg c9] at H
            have c9b0 : (t128.toList == t130.toList) = false := beq_eq_false_iff_ne.mpr c9
            have c9b1 : (t128.toList != t130.toList) = true := bne_iff_ne.mpr c9
            obtain rfl := Option.some.inj H
            go_enter Try.func6, Try.ntmps6
            go_wp2_with (first | ((with_reducible refine gate_callee (f := 14) rfl ?_); refine goesL_ (some 17) rfl rfl Try.func14 (by kernel_rfl) rfl #[.string a0] rfl (by (try simp only [List.map_toArray, List.map_cons, List.map_nil]); first | done | rfl | (simp only [List.length_drop, List.length_take]; rfl)) ?_; (with_reducible refine (impl_PathClean.calls a0 t128 true _ A4.out).mono ?_); rintro e w17 ⟨rfl, hb⟩; refine ⟨_, rfl, ?_⟩; have n0_ := Aside0.mk (below_step (by repeat (first | (with_reducible first | exact HB.out | apply below_alloc | apply pw_below_drewN | apply below_drew1) | exact HB.out)) hb); clear HB; have HB := n0_; clear n0_; (try clear hb); (try clear hb2); (try clear hk); (try clear hi)) | ((with_reducible refine gate_callee (f := 15) rfl ?_); refine goesL_ (some 22) rfl rfl Try.func15 (by kernel_rfl) rfl #[.string a0] rfl (by (try simp only [List.map_toArray, List.map_cons, List.map_nil]); first | done | rfl | (simp only [List.length_drop, List.length_take]; rfl)) ?_; (with_reducible refine (spec_PathSafe.calls k a0 t130 t131 _ A5.out).mono ?_); rintro e w18 ⟨rfl, hb⟩; refine ⟨_, rfl, ?_⟩; have n0_ := Aside0.mk (below_step (by repeat (first | (with_reducible first | exact HB.out | apply below_alloc | apply pw_below_drewN | apply below_drew1) | exact HB.out)) hb); clear HB; have HB := n0_; clear n0_; (try clear hb); (try clear hb2); (try clear hk); (try clear hi)) | ((with_reducible refine gate_callee (f := 14) rfl ?_); refine goesL_ (some 26) rfl rfl Try.func14 (by kernel_rfl) rfl #[.string (⟨#[47, 97, 47, 47, 98, 47, 46, 47, 99, 47]⟩ : ByteArray)] rfl (by (try simp only [List.map_toArray, List.map_cons, List.map_nil]); first | done | rfl | (simp only [List.length_drop, List.length_take]; rfl)) ?_; (with_reducible refine (impl_PathClean.calls (⟨#[47, 97, 47, 47, 98, 47, 46, 47, 99, 47]⟩ : ByteArray) t132 t133 _ A6.out).mono ?_); rintro e w19 ⟨rfl, hb⟩; refine ⟨_, rfl, ?_⟩; have n0_ := Aside0.mk (below_step (by repeat (first | (with_reducible first | exact HB.out | apply below_alloc | apply pw_below_drewN | apply below_drew1) | exact HB.out)) hb); clear HB; have HB := n0_; clear n0_; (try clear hb); (try clear hb2); (try clear hk); (try clear hi)))
            go_ret
            exact ⟨by first | rfl | (simp [errW_none, errW_some] <;> rfl) | (simp [*, errW_none, errW_some] <;> rfl), by repeat (first | (with_reducible first | exact HB.out | apply below_alloc | apply pw_below_drewN | apply below_drew1) | exact HB.out)⟩
        · replace c8 := Bool.eq_false_iff.mpr c8
          subst c8
          have H1 : (if t133 = true then (some (t132.toList == ([97, 47, 98, 47, 99] : List UInt8))) else (some false)) = some r := by rw [if_neg (show ¬ (false = true) by decide)] at H; exact H
          clear H
          have H := H1
          clear H1
          by_cases c20 : t133 = true
          · subst c20
            have H1 : (some (t132.toList == ([97, 47, 98, 47, 99] : List UInt8))) = some r := by rw [if_pos rfl] at H; exact H
            clear H
            have H := H1
            clear H1
            obtain rfl := Option.some.inj H
            go_enter Try.func6, Try.ntmps6
            go_wp2_with (first | ((with_reducible refine gate_callee (f := 14) rfl ?_); refine goesL_ (some 17) rfl rfl Try.func14 (by kernel_rfl) rfl #[.string a0] rfl (by (try simp only [List.map_toArray, List.map_cons, List.map_nil]); first | done | rfl | (simp only [List.length_drop, List.length_take]; rfl)) ?_; (with_reducible refine (impl_PathClean.calls a0 t128 false _ A4.out).mono ?_); rintro e w21 ⟨rfl, hb⟩; refine ⟨_, rfl, ?_⟩; have n0_ := Aside0.mk (below_step (by repeat (first | (with_reducible first | exact HB.out | apply below_alloc | apply pw_below_drewN | apply below_drew1) | exact HB.out)) hb); clear HB; have HB := n0_; clear n0_; (try clear hb); (try clear hb2); (try clear hk); (try clear hi)) | ((with_reducible refine gate_callee (f := 15) rfl ?_); refine goesL_ (some 22) rfl rfl Try.func15 (by kernel_rfl) rfl #[.string a0] rfl (by (try simp only [List.map_toArray, List.map_cons, List.map_nil]); first | done | rfl | (simp only [List.length_drop, List.length_take]; rfl)) ?_; (with_reducible refine (spec_PathSafe.calls k a0 t130 t131 _ A5.out).mono ?_); rintro e w22 ⟨rfl, hb⟩; refine ⟨_, rfl, ?_⟩; have n0_ := Aside0.mk (below_step (by repeat (first | (with_reducible first | exact HB.out | apply below_alloc | apply pw_below_drewN | apply below_drew1) | exact HB.out)) hb); clear HB; have HB := n0_; clear n0_; (try clear hb); (try clear hb2); (try clear hk); (try clear hi)) | ((with_reducible refine gate_callee (f := 14) rfl ?_); refine goesL_ (some 26) rfl rfl Try.func14 (by kernel_rfl) rfl #[.string (⟨#[47, 97, 47, 47, 98, 47, 46, 47, 99, 47]⟩ : ByteArray)] rfl (by (try simp only [List.map_toArray, List.map_cons, List.map_nil]); first | done | rfl | (simp only [List.length_drop, List.length_take]; rfl)) ?_; (with_reducible refine (impl_PathClean.calls (⟨#[47, 97, 47, 47, 98, 47, 46, 47, 99, 47]⟩ : ByteArray) t132 true _ A6.out).mono ?_); rintro e w23 ⟨rfl, hb⟩; refine ⟨_, rfl, ?_⟩; have n0_ := Aside0.mk (below_step (by repeat (first | (with_reducible first | exact HB.out | apply below_alloc | apply pw_below_drewN | apply below_drew1) | exact HB.out)) hb); clear HB; have HB := n0_; clear n0_; (try clear hb); (try clear hb2); (try clear hk); (try clear hi)))
            go_ret
            exact ⟨by first | rfl | (simp [errW_none, errW_some] <;> rfl) | (simp [*, errW_none, errW_some] <;> rfl), by repeat (first | (with_reducible first | exact HB.out | apply below_alloc | apply pw_below_drewN | apply below_drew1) | exact HB.out)⟩
          · replace c20 := Bool.eq_false_iff.mpr c20
            subst c20
            have H1 : (some false) = some r := by rw [if_neg (show ¬ (false = true) by decide)] at H; exact H
            clear H
            have H := H1
            clear H1
            obtain rfl := Option.some.inj H
            go_enter Try.func6, Try.ntmps6
            go_wp2_with (first | ((with_reducible refine gate_callee (f := 14) rfl ?_); refine goesL_ (some 17) rfl rfl Try.func14 (by kernel_rfl) rfl #[.string a0] rfl (by (try simp only [List.map_toArray, List.map_cons, List.map_nil]); first | done | rfl | (simp only [List.length_drop, List.length_take]; rfl)) ?_; (with_reducible refine (impl_PathClean.calls a0 t128 false _ A4.out).mono ?_); rintro e w24 ⟨rfl, hb⟩; refine ⟨_, rfl, ?_⟩; have n0_ := Aside0.mk (below_step (by repeat (first | (with_reducible first | exact HB.out | apply below_alloc | apply pw_below_drewN | apply below_drew1) | exact HB.out)) hb); clear HB; have HB := n0_; clear n0_; (try clear hb); (try clear hb2); (try clear hk); (try clear hi)) | ((with_reducible refine gate_callee (f := 15) rfl ?_); refine goesL_ (some 22) rfl rfl Try.func15 (by kernel_rfl) rfl #[.string a0] rfl (by (try simp only [List.map_toArray, List.map_cons, List.map_nil]); first | done | rfl | (simp only [List.length_drop, List.length_take]; rfl)) ?_; (with_reducible refine (spec_PathSafe.calls k a0 t130 t131 _ A5.out).mono ?_); rintro e w25 ⟨rfl, hb⟩; refine ⟨_, rfl, ?_⟩; have n0_ := Aside0.mk (below_step (by repeat (first | (with_reducible first | exact HB.out | apply below_alloc | apply pw_below_drewN | apply below_drew1) | exact HB.out)) hb); clear HB; have HB := n0_; clear n0_; (try clear hb); (try clear hb2); (try clear hk); (try clear hi)) | ((with_reducible refine gate_callee (f := 14) rfl ?_); refine goesL_ (some 26) rfl rfl Try.func14 (by kernel_rfl) rfl #[.string (⟨#[47, 97, 47, 47, 98, 47, 46, 47, 99, 47]⟩ : ByteArray)] rfl (by (try simp only [List.map_toArray, List.map_cons, List.map_nil]); first | done | rfl | (simp only [List.length_drop, List.length_take]; rfl)) ?_; (with_reducible refine (impl_PathClean.calls (⟨#[47, 97, 47, 47, 98, 47, 46, 47, 99, 47]⟩ : ByteArray) t132 false _ A6.out).mono ?_); rintro e w26 ⟨rfl, hb⟩; refine ⟨_, rfl, ?_⟩; have n0_ := Aside0.mk (below_step (by repeat (first | (with_reducible first | exact HB.out | apply below_alloc | apply pw_below_drewN | apply below_drew1) | exact HB.out)) hb); clear HB; have HB := n0_; clear n0_; (try clear hb); (try clear hb2); (try clear hk); (try clear hi)))
            go_ret
            exact ⟨by first | rfl | (simp [errW_none, errW_some] <;> rfl) | (simp [*, errW_none, errW_some] <;> rfl), by repeat (first | (with_reducible first | exact HB.out | apply below_alloc | apply pw_below_drewN | apply below_drew1) | exact HB.out)⟩
      · rw [if_neg c7] at H
        have c7b0 : (t129 == t131) = false := by simpa using c7
        (try (have c7b1 : decide (t129 = t131) = false := by simpa using c7))
        (try (have c7b2 : (t129 == t131) = false := by simpa using c7))
        (try (have c7b3 : ¬ (t129 = t131) := by simpa using c7))
        clear c7
        obtain rfl := Option.some.inj H
        go_enter Try.func6, Try.ntmps6
        go_wp2_with (first | ((with_reducible refine gate_callee (f := 14) rfl ?_); refine goesL_ (some 17) rfl rfl Try.func14 (by kernel_rfl) rfl #[.string a0] rfl (by (try simp only [List.map_toArray, List.map_cons, List.map_nil]); first | done | rfl | (simp only [List.length_drop, List.length_take]; rfl)) ?_; (with_reducible refine (impl_PathClean.calls a0 t128 t129 _ A4.out).mono ?_); rintro e w27 ⟨rfl, hb⟩; refine ⟨_, rfl, ?_⟩; have n0_ := Aside0.mk (below_step (by repeat (first | (with_reducible first | exact HB.out | apply below_alloc | apply pw_below_drewN | apply below_drew1) | exact HB.out)) hb); clear HB; have HB := n0_; clear n0_; (try clear hb); (try clear hb2); (try clear hk); (try clear hi)) | ((with_reducible refine gate_callee (f := 15) rfl ?_); refine goesL_ (some 22) rfl rfl Try.func15 (by kernel_rfl) rfl #[.string a0] rfl (by (try simp only [List.map_toArray, List.map_cons, List.map_nil]); first | done | rfl | (simp only [List.length_drop, List.length_take]; rfl)) ?_; (with_reducible refine (spec_PathSafe.calls k a0 t130 t131 _ A5.out).mono ?_); rintro e w28 ⟨rfl, hb⟩; refine ⟨_, rfl, ?_⟩; have n0_ := Aside0.mk (below_step (by repeat (first | (with_reducible first | exact HB.out | apply below_alloc | apply pw_below_drewN | apply below_drew1) | exact HB.out)) hb); clear HB; have HB := n0_; clear n0_; (try clear hb); (try clear hb2); (try clear hk); (try clear hi)) | ((with_reducible refine gate_callee (f := 14) rfl ?_); refine goesL_ (some 26) rfl rfl Try.func14 (by kernel_rfl) rfl #[.string (⟨#[47, 97, 47, 47, 98, 47, 46, 47, 99, 47]⟩ : ByteArray)] rfl (by (try simp only [List.map_toArray, List.map_cons, List.map_nil]); first | done | rfl | (simp only [List.length_drop, List.length_take]; rfl)) ?_; (with_reducible refine (impl_PathClean.calls (⟨#[47, 97, 47, 47, 98, 47, 46, 47, 99, 47]⟩ : ByteArray) t132 t133 _ A6.out).mono ?_); rintro e w29 ⟨rfl, hb⟩; refine ⟨_, rfl, ?_⟩; have n0_ := Aside0.mk (below_step (by repeat (first | (with_reducible first | exact HB.out | apply below_alloc | apply pw_below_drewN | apply below_drew1) | exact HB.out)) hb); clear HB; have HB := n0_; clear n0_; (try clear hb); (try clear hb2); (try clear hk); (try clear hi)))
        go_ret
        exact ⟨by first | rfl | (simp [errW_none, errW_some] <;> rfl) | (simp [*, errW_none, errW_some] <;> rfl), by repeat (first | (with_reducible first | exact HB.out | apply below_alloc | apply pw_below_drewN | apply below_drew1) | exact HB.out)⟩
def laws_FnPathSafe.Pure : Prop := ∀ (a0 : ByteArray), a0.size ≤ 140737488351232 → ∃ k, laws_FnPathSafe.f k a0 = some true
theorem laws_FnPathSafe.walk (P : laws_FnPathSafe.Pure) (w : World) (a0 : ByteArray) (b0_0 : a0.size ≤ 140737488351232) :
    Calls Try.prog 6 #[.string a0] w fun e w' => e = .returned (.bool true) ∧ Below w.heap.size w w' := by
  obtain ⟨k, h⟩ := P a0 b0_0
  refine (laws_FnPathSafe.calls k a0 true w  h).mono ?_
  rintro e w' ⟨rfl, hd⟩
  exact ⟨rfl, hd⟩

end Go.Proofs.Ytkdmdoflfaldiaa.PT
