-- Written by a program of this session.
import Derived.Test.YtkdmdoflfaldiaaDoorPCx0
namespace Go.Proofs.YtkdmdoflfaldiaaDoor.PC
open Go.RowKit Go.Proofs.YtkdmdoflfaldiaaDoorW.PrintWords Go.Proofs.YtkdmdoflfaldiaaDoorW.PrintLast Go.Proofs.YtkdmdoflfaldiaaDoorW.PrintMore
attribute [local go_sem] max2_int min2_int max_two min_two max_three min_three max_four min_four   -- for this text's walks alone
set_option linter.unusedVariables false
set_option linter.unusedSimpArgs false

/-! ### spec_figures: function 8 -/
def spec_figures.l0 : Nat → ByteArray → Int → Int → Option (Int × Bool)
  | 0, _, _, _ => none
  | k + 1, x0, x2, x4 => if x4 < (x0.size : Int) then (if 0 ≤ x4 then (if (wrap64 ((wrap64 (bt x0 x4)) - 48)) < 0 then (some (0, false)) else (if (wrap64 ((wrap64 (bt x0 x4)) - 48)) > 9 then (some (0, false)) else (if x2 > (wrap64 (Int.tdiv (wrap64 (9223372036854775807 - (wrap64 ((wrap64 (bt x0 x4)) - 48)))) 10)) then (some (0, false)) else (spec_figures.l0 k x0 (wrap64 ((wrap64 (x2 * 10)) + (wrap64 ((wrap64 (bt x0 x4)) - 48)))) (wrap64 (x4 + 1)))))) else (none)) else (some (x2, (x0.toList != ([] : List UInt8))))
def spec_figures.f (k : Nat) (a0 : ByteArray) : Option (Int × Bool) := spec_figures.l0 k a0 0 0
theorem spec_figures.mono_l : ∀ k, (∀ y0 y1 y2, LeO (spec_figures.l0 k y0 y1 y2) (spec_figures.l0 (k + 1) y0 y1 y2))
  | 0 => fun _ _ _ r h => by simp [spec_figures.l0] at h
  | k + 1 => by
    have ih0 := spec_figures.mono_l k
    · intro y0 y1 y2
      unfold spec_figures.l0
      repeat' first
      | (with_reducible exact ih0 _ _ _)
      | (with_reducible exact LeO.refl _)
      | (with_reducible exact LeO.none _)
      | (with_reducible refine LeO.ite ?_ ?_)
      | (with_reducible refine LeO.bind ?_ (fun _ => ?_))
      | exact ih0 _ _ _
      | exact LeO.none _
      | refine LeO.ite ?_ ?_
      | refine LeO.bind ?_ (fun _ => ?_)
theorem spec_figures.mono : ∀ a0 k, LeO (spec_figures.f k a0) (spec_figures.f (k + 1) a0) := by
  intro a0 k
  have ih0 := spec_figures.mono_l k
  unfold spec_figures.f
  repeat' first
      | (with_reducible exact ih0 _ _ _)
      | (with_reducible exact LeO.refl _)
      | (with_reducible exact LeO.none _)
      | (with_reducible refine LeO.ite ?_ ?_)
      | (with_reducible refine LeO.bind ?_ (fun _ => ?_))
      | exact ih0 _ _ _
      | exact LeO.none _
      | refine LeO.ite ?_ ?_
      | refine LeO.bind ?_ (fun _ => ?_)
set_option maxHeartbeats 8000000 in
set_option maxRecDepth 100000 in
theorem spec_figures.calls (k : Nat) (a0 : ByteArray) (r1 : Int) (r2 : Bool) (w : World) (h : spec_figures.f k a0 = some (r1, r2)) :
    Calls Tryd.prog 8 #[.string a0] w fun e w' => e = .returned (.tuple #[.int .i64 r1, .bool r2]) ∧ Drawn0 w w' := by
  have H : (spec_figures.l0 k a0 0 0) = some (r1, r2) := h
  clear h
  have H' := Aside0.mk H
  clear H
  go_enter Tryd.func8, Tryd.ntmps8
  go_wp2
  go_loopg [2, 4] k (fun kq v2 v4 w' => ∃ (x2_1 : Int) (x4_1 : Int), v2 = .int .i64 x2_1 ∧ v4 = .int .i64 x4_1 ∧ Aside0 (spec_figures.l0 kq a0 x2_1 x4_1 = some (r1, r2)) ∧ Aside0 (kq ≤ k) ∧ Drawn0 w w')
  case atStart => exact ⟨(0), (0), (by first | rfl | (simp; done) | (simp [*]; done)), (by first | rfl | (simp; done) | (simp [*]; done)), H', ⟨Nat.le_refl _⟩, by repeat (first | exact Drawn0.refl _ | apply Drawn0.step)⟩
  case round =>
    clear H'
    obtain ⟨x2_1, x4_1, rfl, rfl, HA, HK1, ⟨m1, rfl⟩⟩ := hrel
    cases gk with
    | zero => exact absurd HA.out (by simp [spec_figures.l0])
    | succ k1 =>
      have H := HA.out
      clear HA
      simp only [spec_figures.l0] at H
      by_cases c2 : x4_1 < (a0.size : Int)
      · rw [if_pos c2] at H
        have c2b0 : decide (x4_1 < (a0.size : Int)) = true := decide_eq_true c2
        clear c2
        by_cases c3 : 0 ≤ x4_1
        · rw [if_pos c3] at H
          have c3b0 : decide (0 ≤ x4_1) = true := decide_eq_true c3
          clear c3
          by_cases c5 : (wrap64 ((wrap64 (bt a0 x4_1)) - 48)) < 0
          · rw [if_pos c5] at H
            have c5b0 : decide ((wrap64 ((wrap64 (bt a0 x4_1)) - 48)) < 0) = true := decide_eq_true c5
            clear c5
            simp only [Option.some.injEq, Prod.mk.injEq] at H
            obtain ⟨rfl, rfl⟩ := H
            have p4 : 0 ≤ (x4_1 : Int) := of_decide_eq_true (by first | (with_reducible assumption) | assumption)
            have q4 : x4_1 < (a0.size : Int) := of_decide_eq_true (by first | (with_reducible assumption) | assumption)
            have hx4 := bt_at a0 x4_1
            replace p4 := eq_true p4
            replace q4 := eq_true q4
            go_wp2
            go_ret2
            exact ⟨by first | rfl | (simp; done) | (simp [*]; done), by repeat (first | exact Drawn0.refl _ | apply Drawn0.step)⟩
          · rw [if_neg c5] at H
            have c5b0 : decide ((wrap64 ((wrap64 (bt a0 x4_1)) - 48)) < 0) = false := decide_eq_false c5
            clear c5
            by_cases c6 : (wrap64 ((wrap64 (bt a0 x4_1)) - 48)) > 9
            · rw [if_pos c6] at H
              have c6b0 : decide (9 < (wrap64 ((wrap64 (bt a0 x4_1)) - 48))) = true := decide_eq_true c6
              clear c6
              simp only [Option.some.injEq, Prod.mk.injEq] at H
              obtain ⟨rfl, rfl⟩ := H
              have p4 : 0 ≤ (x4_1 : Int) := of_decide_eq_true (by first | (with_reducible assumption) | assumption)
              have q4 : x4_1 < (a0.size : Int) := of_decide_eq_true (by first | (with_reducible assumption) | assumption)
              have hx4 := bt_at a0 x4_1
              replace p4 := eq_true p4
              replace q4 := eq_true q4
              go_wp2
              go_ret2
              exact ⟨by first | rfl | (simp; done) | (simp [*]; done), by repeat (first | exact Drawn0.refl _ | apply Drawn0.step)⟩
            · rw [if_neg c6] at H
              have c6b0 : decide (9 < (wrap64 ((wrap64 (bt a0 x4_1)) - 48))) = false := decide_eq_false c6
              clear c6
              by_cases c7 : x2_1 > (wrap64 (Int.tdiv (wrap64 (9223372036854775807 - (wrap64 ((wrap64 (bt a0 x4_1)) - 48)))) 10))
              · rw [if_pos c7] at H
                have c7b0 : decide ((wrap64 (Int.tdiv (wrap64 (9223372036854775807 - (wrap64 ((wrap64 (bt a0 x4_1)) - 48)))) 10)) < x2_1) = true := decide_eq_true c7
                clear c7
                simp only [Option.some.injEq, Prod.mk.injEq] at H
                obtain ⟨rfl, rfl⟩ := H
                have p4 : 0 ≤ (x4_1 : Int) := of_decide_eq_true (by first | (with_reducible assumption) | assumption)
                have q4 : x4_1 < (a0.size : Int) := of_decide_eq_true (by first | (with_reducible assumption) | assumption)
                have hx4 := bt_at a0 x4_1
                replace p4 := eq_true p4
                replace q4 := eq_true q4
                go_wp2
                go_ret2
                exact ⟨by first | rfl | (simp; done) | (simp [*]; done), by repeat (first | exact Drawn0.refl _ | apply Drawn0.step)⟩
              · rw [if_neg c7] at H
                have c7b0 : decide ((wrap64 (Int.tdiv (wrap64 (9223372036854775807 - (wrap64 ((wrap64 (bt a0 x4_1)) - 48)))) 10)) < x2_1) = false := decide_eq_false c7
                clear c7
                have H' := Aside0.mk H
                clear H
                have p4 : 0 ≤ (x4_1 : Int) := of_decide_eq_true (by first | (with_reducible assumption) | assumption)
                have q4 : x4_1 < (a0.size : Int) := of_decide_eq_true (by first | (with_reducible assumption) | assumption)
                have hx4 := bt_at a0 x4_1
                replace p4 := eq_true p4
                replace q4 := eq_true q4
                go_wp2
                go_roundg k1
                case measure => have := HK1.out; omega
                case rel => exact ⟨(wrap64 ((wrap64 (x2_1 * 10)) + (wrap64 ((wrap64 (bt a0 x4_1)) - 48)))), (wrap64 (x4_1 + 1)), (by first | rfl | (simp; done) | (simp [*]; done)), (by first | rfl | (simp; done) | (simp [*]; done)), H', ⟨by have := HK1.out; omega⟩, by repeat (first | exact Drawn0.refl _ | apply Drawn0.step)⟩
        · rw [if_neg c3] at H
          exact absurd H (by simp)
      · rw [if_neg c2] at H
        have c2b0 : decide (x4_1 < (a0.size : Int)) = false := decide_eq_false c2
        clear c2
        simp only [Option.some.injEq, Prod.mk.injEq] at H
        obtain ⟨rfl, rfl⟩ := H
        go_wp2
        go_ret2
        exact ⟨by (simp only [Ending.returned.injEq, Value.tuple.injEq]; cases h9 : a0.toList <;> simp [h9]), by repeat (first | exact Drawn0.refl _ | apply Drawn0.step)⟩

end Go.Proofs.YtkdmdoflfaldiaaDoor.PC
