-- Written by a program of this session.
import Derived.Test.YtgbcmjbiddkldaaDoorPRx0
namespace Go.Proofs.YtgbcmjbiddkldaaDoor.PR
open Go.RowKit Go.Proofs.YtgbcmjbiddkldaaDoorW.PrintWords Go.Proofs.YtgbcmjbiddkldaaDoorW.PrintLast Go.Proofs.YtgbcmjbiddkldaaDoorW.PrintMore
attribute [local go_sem] max2_int min2_int max_two min_two max_three min_three max_four min_four   -- for this text's walks alone
set_option linter.unusedVariables false
set_option linter.unusedSimpArgs false

/-! ### laws_zzFits14: function 7 -/
def laws_zzFits14.l0 : Nat → List (List Int) → Int → Int → Option (Bool)
  | 0, _, _, _ => none
  | k + 1, x8, x9, x10 => if x10 < x9 then (if 0 ≤ x10 then (if x10 < (x8.length : Int) then (if ((rd_L1 x8 x10).length : Int) > 2147483647 then (some false) else (laws_zzFits14.l0 k x8 x9 (wrap64 (x10 + 1)))) else (none)) else (none)) else (some true)
def laws_zzFits14.f (k : Nat) (l0 : List (List Int)) : Option (Bool) := if (l0.length : Int) > 2147483647 then (some false) else (laws_zzFits14.l0 k l0 (l0.length : Int) 0)
theorem laws_zzFits14.mono_l : ∀ k, (∀ y0 y1 y2, LeO (laws_zzFits14.l0 k y0 y1 y2) (laws_zzFits14.l0 (k + 1) y0 y1 y2))
  | 0 => fun _ _ _ r h => by simp [laws_zzFits14.l0] at h
  | k + 1 => by
    have ih0 := laws_zzFits14.mono_l k
    · intro y0 y1 y2
      unfold laws_zzFits14.l0
      repeat' first
      | (with_reducible exact ih0 _ _ _)
      | (with_reducible exact LeO.refl _)
      | (with_reducible exact LeO.none _)
      | (with_reducible refine LeO.ite ?_ ?_)
      | (with_reducible refine LeO.bind ?_ (fun _ => ?_))
      | exact ih0 _ _ _
      | exact LeO.none _
      | refine LeO.ite ?_ ?_
      | refine LeO.bind ?_ (fun _ => ?_)
theorem laws_zzFits14.mono : ∀ a0 k, LeO (laws_zzFits14.f k a0) (laws_zzFits14.f (k + 1) a0) := by
  intro a0 k
  have ih0 := laws_zzFits14.mono_l k
  unfold laws_zzFits14.f
  repeat' first
      | (with_reducible exact ih0 _ _ _)
      | (with_reducible exact LeO.refl _)
      | (with_reducible exact LeO.none _)
      | (with_reducible refine LeO.ite ?_ ?_)
      | (with_reducible refine LeO.bind ?_ (fun _ => ?_))
      | exact ih0 _ _ _
      | exact LeO.none _
      | refine LeO.ite ?_ ?_
      | refine LeO.bind ?_ (fun _ => ?_)
set_option maxHeartbeats 8000000 in
set_option maxRecDepth 100000 in
theorem laws_zzFits14.calls (k : Nat) (A0 : Option Addr) (c0 : Nat) (l0 : List (List Int)) (r : Bool) (w : World) (hr0 : Kd.C (Kd.slice 5 (Kd.int .u8)) w A0 l0.length l0) (hc0 : l0.length ≤ c0) (h : laws_zzFits14.f k l0 = some r) :
    Calls Tryd.prog 7 #[.slice A0 l0.length c0] w fun e w' => e = .returned (.bool r) ∧ Drawn0 w w' := by
  have HR0 := Aside0.mk hr0
  have HC0 := Aside0.mk hc0
  clear hr0 hc0
  have H : (if (l0.length : Int) > 2147483647 then (some false) else (laws_zzFits14.l0 k l0 (l0.length : Int) 0)) = some r := h
  clear h
  by_cases c2 : (l0.length : Int) > 2147483647
  · rw [if_pos c2] at H
    have c2b0 : decide (2147483647 < (l0.length : Int)) = true := decide_eq_true c2
    have c2b1 : decide (2147483647 < l0.length) = true := decide_eq_true (by omega)
    clear c2
    obtain rfl := Option.some.inj H
    go_enter Tryd.func7, Tryd.ntmps7
    go_wp2
    go_ret
    exact ⟨by first | rfl | (simp; done) | (simp [*]; done), by repeat (first | exact Drawn0.refl _ | apply Drawn0.step)⟩
  · rw [if_neg c2] at H
    have c2b0 : decide (2147483647 < (l0.length : Int)) = false := decide_eq_false c2
    have c2b1 : decide (2147483647 < l0.length) = false := decide_eq_false (by omega)
    clear c2
    have H' := Aside0.mk H
    clear H
    go_enter Tryd.func7, Tryd.ntmps7
    go_wp2
    go_loopg [10] k (fun kq v10 w' => ∃ (x10_1 : Int), v10 = .int .i64 x10_1 ∧ Aside0 (laws_zzFits14.l0 kq l0 (l0.length : Int) x10_1 = some r) ∧ Aside0 (kq ≤ k) ∧ Drawn0 w w')
    case atStart => exact ⟨(0), (by first | rfl | (simp; done) | (simp [*]; done)), H', ⟨Nat.le_refl _⟩, by repeat (first | exact Drawn0.refl _ | apply Drawn0.step)⟩
    case round =>
      clear H'
      try clear c2
      try clear c2b0
      try clear c2b1
      try clear p2
      obtain ⟨x10_1, rfl, HA, HK1, ⟨m1, rfl⟩⟩ := hrel
      cases gk with
      | zero => exact absurd HA.out (by simp [laws_zzFits14.l0])
      | succ k1 =>
        have H := HA.out
        clear HA
        simp only [laws_zzFits14.l0] at H
        by_cases c3 : x10_1 < (l0.length : Int)
        · rw [if_pos c3] at H
          have c3b0 : decide (x10_1 < (l0.length : Int)) = true := decide_eq_true c3
          clear c3
          by_cases c4 : 0 ≤ x10_1
          · rw [if_pos c4] at H
            have c4b0 : decide (0 ≤ x10_1) = true := decide_eq_true c4
            clear c4
            by_cases c5 : x10_1 < (l0.length : Int)
            · rw [if_pos c5] at H
              have c5b0 : decide (x10_1 < (l0.length : Int)) = true := decide_eq_true c5
              clear c5
              by_cases c6 : ((rd_L1 l0 x10_1).length : Int) > 2147483647
              · rw [if_pos c6] at H
                have c6b0 : decide (2147483647 < ((rd_L1 l0 x10_1).length : Int)) = true := decide_eq_true c6
                have c6b1 : decide (2147483647 < (rd_L1 l0 x10_1).length) = true := decide_eq_true (by omega)
                clear c6
                obtain rfl := Option.some.inj H
                have p101 : 0 ≤ (x10_1 : Int) := of_decide_eq_true (by first | (with_reducible assumption) | assumption)
                have q101 : x10_1 < (l0.length : Int) := of_decide_eq_true (by first | (with_reducible assumption) | assumption)
                obtain ⟨ad101, A101_0, c101_0, e101, hx101_0, hl101_0, hi101_0⟩ := at_L1 HR0.out x10_1 p101 q101
                cases e101
                have HR101_0 := Aside0.mk hi101_0
                have HC101_0 := Aside0.mk hl101_0
                clear hi101_0 hl101_0
                replace p101 := eq_true p101
                replace q101 := eq_true q101
                go_wp2
                go_ret
                exact ⟨by first | rfl | (simp; done) | (simp [*]; done), by repeat (first | exact Drawn0.refl _ | apply Drawn0.step)⟩
              · rw [if_neg c6] at H
                have c6b0 : decide (2147483647 < ((rd_L1 l0 x10_1).length : Int)) = false := decide_eq_false c6
                have c6b1 : decide (2147483647 < (rd_L1 l0 x10_1).length) = false := decide_eq_false (by omega)
                clear c6
                have H' := Aside0.mk H
                clear H
                have p101 : 0 ≤ (x10_1 : Int) := of_decide_eq_true (by first | (with_reducible assumption) | assumption)
                have q101 : x10_1 < (l0.length : Int) := of_decide_eq_true (by first | (with_reducible assumption) | assumption)
                obtain ⟨ad101, A101_0, c101_0, e101, hx101_0, hl101_0, hi101_0⟩ := at_L1 HR0.out x10_1 p101 q101
                cases e101
                have HR101_0 := Aside0.mk hi101_0
                have HC101_0 := Aside0.mk hl101_0
                clear hi101_0 hl101_0
                replace p101 := eq_true p101
                replace q101 := eq_true q101
                go_wp2
                go_roundg k1
                case measure => have := HK1.out; omega
                case rel => exact ⟨(wrap64 (x10_1 + 1)), (by first | rfl | (simp; done) | (simp [*]; done)), H', ⟨by have := HK1.out; omega⟩, by repeat (first | exact Drawn0.refl _ | apply Drawn0.step)⟩
            · rw [if_neg c5] at H
              exact absurd H (by simp)
          · rw [if_neg c4] at H
            exact absurd H (by simp)
        · rw [if_neg c3] at H
          have c3b0 : decide (x10_1 < (l0.length : Int)) = false := decide_eq_false c3
          clear c3
          obtain rfl := Option.some.inj H
          go_wp2
          go_ret
          exact ⟨by first | rfl | (simp; done) | (simp [*]; done), by repeat (first | exact Drawn0.refl _ | apply Drawn0.step)⟩

/-! ### spec_PartsIn: function 8 -/
def spec_PartsIn.l0 : Nat → List (List Int) → Int → List (List Int) → Int → Int → Option (Bool)
  | 0, _, _, _, _, _ => none
  | k + 1, x0, x3, x6, x7, x8 => if x8 < x7 then (if 0 ≤ x8 then (if x8 < (x6.length : Int) then (spec_PartsIn.l0 k x0 (wrap64 (x3 + ((rd_L1 x6 x8).length : Int))) x6 x7 (wrap64 (x8 + 1))) else (none)) else (none)) else (if (x0.length : Int) ≤ 30 then (some (decide (x3 ≤ 4000))) else (some false))
def spec_PartsIn.f (k : Nat) (l0 : List (List Int)) : Option (Bool) := spec_PartsIn.l0 k l0 0 l0 (l0.length : Int) 0
theorem spec_PartsIn.mono_l : ∀ k, (∀ y0 y1 y2 y3 y4, LeO (spec_PartsIn.l0 k y0 y1 y2 y3 y4) (spec_PartsIn.l0 (k + 1) y0 y1 y2 y3 y4))
  | 0 => fun _ _ _ _ _ r h => by simp [spec_PartsIn.l0] at h
  | k + 1 => by
    have ih0 := spec_PartsIn.mono_l k
    · intro y0 y1 y2 y3 y4
      unfold spec_PartsIn.l0
      repeat' first
      | (with_reducible exact ih0 _ _ _ _ _)
      | (with_reducible exact LeO.refl _)
      | (with_reducible exact LeO.none _)
      | (with_reducible refine LeO.ite ?_ ?_)
      | (with_reducible refine LeO.bind ?_ (fun _ => ?_))
      | exact ih0 _ _ _ _ _
      | exact LeO.none _
      | refine LeO.ite ?_ ?_
      | refine LeO.bind ?_ (fun _ => ?_)
theorem spec_PartsIn.mono : ∀ a0 k, LeO (spec_PartsIn.f k a0) (spec_PartsIn.f (k + 1) a0) := by
  intro a0 k
  have ih0 := spec_PartsIn.mono_l k
  unfold spec_PartsIn.f
  repeat' first
      | (with_reducible exact ih0 _ _ _ _ _)
      | (with_reducible exact LeO.refl _)
      | (with_reducible exact LeO.none _)
      | (with_reducible refine LeO.ite ?_ ?_)
      | (with_reducible refine LeO.bind ?_ (fun _ => ?_))
      | exact ih0 _ _ _ _ _
      | exact LeO.none _
      | refine LeO.ite ?_ ?_
      | refine LeO.bind ?_ (fun _ => ?_)
set_option maxHeartbeats 8000000 in
set_option maxRecDepth 100000 in
theorem spec_PartsIn.calls (k : Nat) (A0 : Option Addr) (c0 : Nat) (l0 : List (List Int)) (r : Bool) (w : World) (hr0 : Kd.C (Kd.slice 5 (Kd.int .u8)) w A0 l0.length l0) (hc0 : l0.length ≤ c0) (h : spec_PartsIn.f k l0 = some r) :
    Calls Tryd.prog 8 #[.slice A0 l0.length c0] w fun e w' => e = .returned (.bool r) ∧ Drawn0 w w' := by
  have HR0 := Aside0.mk hr0
  have HC0 := Aside0.mk hc0
  clear hr0 hc0
  have H : (spec_PartsIn.l0 k l0 0 l0 (l0.length : Int) 0) = some r := h
  clear h
  have H' := Aside0.mk H
  clear H
  go_enter Tryd.func8, Tryd.ntmps8
  go_wp2
  go_loopg [3, 8] k (fun kq v3 v8 w' => ∃ (x3_1 : Int) (x8_1 : Int), v3 = .int .i64 x3_1 ∧ v8 = .int .i64 x8_1 ∧ Aside0 (spec_PartsIn.l0 kq l0 x3_1 l0 (l0.length : Int) x8_1 = some r) ∧ Aside0 (kq ≤ k) ∧ Drawn0 w w')
  case atStart => exact ⟨(0), (0), (by first | rfl | (simp; done) | (simp [*]; done)), (by first | rfl | (simp; done) | (simp [*]; done)), H', ⟨Nat.le_refl _⟩, by repeat (first | exact Drawn0.refl _ | apply Drawn0.step)⟩
  case round =>
    clear H'
    obtain ⟨x3_1, x8_1, rfl, rfl, HA, HK1, ⟨m1, rfl⟩⟩ := hrel
    cases gk with
    | zero => exact absurd HA.out (by simp [spec_PartsIn.l0])
    | succ k1 =>
      have H := HA.out
      clear HA
      simp only [spec_PartsIn.l0] at H
      by_cases c2 : x8_1 < (l0.length : Int)
      · rw [if_pos c2] at H
        have c2b0 : decide (x8_1 < (l0.length : Int)) = true := decide_eq_true c2
        clear c2
        by_cases c3 : 0 ≤ x8_1
        · rw [if_pos c3] at H
          have c3b0 : decide (0 ≤ x8_1) = true := decide_eq_true c3
          clear c3
          by_cases c4 : x8_1 < (l0.length : Int)
          · rw [if_pos c4] at H
            have c4b0 : decide (x8_1 < (l0.length : Int)) = true := decide_eq_true c4
            clear c4
            have H' := Aside0.mk H
            clear H
            have p102 : 0 ≤ (x8_1 : Int) := of_decide_eq_true (by first | (with_reducible assumption) | assumption)
            have q102 : x8_1 < (l0.length : Int) := of_decide_eq_true (by first | (with_reducible assumption) | assumption)
            obtain ⟨ad102, A102_0, c102_0, e102, hx102_0, hl102_0, hi102_0⟩ := at_L1 HR0.out x8_1 p102 q102
            cases e102
            have HR102_0 := Aside0.mk hi102_0
            have HC102_0 := Aside0.mk hl102_0
            clear hi102_0 hl102_0
            replace p102 := eq_true p102
            replace q102 := eq_true q102
            go_wp2
            go_roundg k1
            case measure => have := HK1.out; omega
            case rel => exact ⟨(wrap64 (x3_1 + ((rd_L1 l0 x8_1).length : Int))), (wrap64 (x8_1 + 1)), (by first | rfl | (simp; done) | (simp [*]; done)), (by first | rfl | (simp; done) | (simp [*]; done)), H', ⟨by have := HK1.out; omega⟩, by repeat (first | exact Drawn0.refl _ | apply Drawn0.step)⟩
          · rw [if_neg c4] at H
            exact absurd H (by simp)
        · rw [if_neg c3] at H
          exact absurd H (by simp)
      · rw [if_neg c2] at H
        have c2b0 : decide (x8_1 < (l0.length : Int)) = false := decide_eq_false c2
        clear c2
        by_cases c5 : (l0.length : Int) ≤ 30
        · rw [if_pos c5] at H
          have c5b0 : decide ((l0.length : Int) ≤ 30) = true := decide_eq_true c5
          have c5b1 : decide (l0.length ≤ 30) = true := decide_eq_true (by omega)
          clear c5
          obtain rfl := Option.some.inj H
          go_wp2
          go_ret
          exact ⟨by first | rfl | (simp; done) | (simp [*]; done), by repeat (first | exact Drawn0.refl _ | apply Drawn0.step)⟩
        · rw [if_neg c5] at H
          have c5b0 : decide ((l0.length : Int) ≤ 30) = false := decide_eq_false c5
          have c5b1 : decide (l0.length ≤ 30) = false := decide_eq_false (by omega)
          clear c5
          obtain rfl := Option.some.inj H
          go_wp2
          go_ret
          exact ⟨by first | rfl | (simp; done) | (simp [*]; done), by repeat (first | exact Drawn0.refl _ | apply Drawn0.step)⟩

/-! ### laws_readIn: function 9 -/
mutual
def laws_readIn.l0 : Nat → List (S32) → List Int → List (S32) → Int → Int → Option (Bool)
  | 0, _, _, _, _, _ => none
  | k + 1, x0, x1, x10, x11, x12 => if x12 < x11 then (if 0 ≤ x12 then (if x12 < (x10.length : Int) then (laws_readIn.l1 k x0 x1 false x10 x11 x12 x1 (x1.length : Int) 0 ((rd_T32 x10 x12).f0) ((rd_T32 x10 x12).f1) ((rd_T32 x10 x12).f2)) else (none)) else (none)) else (some (decide ((x0.length : Int) ≤ 60)))
def laws_readIn.l1 : Nat → List (S32) → List Int → Bool → List (S32) → Int → Int → List Int → Int → Int → Int → Int → Int → Option (Bool)
  | 0, _, _, _, _, _, _, _, _, _, _, _, _ => none
  | k + 1, x0, x1, x7, x10, x11, x12, x16, x17, x18, x105000, x105001, x105002 => if x18 < x17 then (if 0 ≤ x18 then (if x18 < (x16.length : Int) then (if x7 = true then (laws_readIn.l1 k x0 x1 true x10 x11 x12 x16 x17 (wrap64 (x18 + 1)) x105000 x105001 x105002) else (laws_readIn.l1 k x0 x1 (x105000 == (rd x16 x18)) x10 x11 x12 x16 x17 (wrap64 (x18 + 1)) x105000 x105001 x105002)) else (none)) else (none)) else (if x7 = true then (if x105000 = 0 then (if x105001 < 1 then (some false) else (if x105001 > 5000 then (some false) else (if x105000 = 1 then (if x105001 < (-1099511627776) then (some false) else (if x105001 > 1099511627776 then (some false) else (if x105002 < 0 then (some false) else (if x105002 > 2 then (some false) else (laws_readIn.l0 k x0 x1 x10 x11 (wrap64 (x12 + 1))))))) else (laws_readIn.l0 k x0 x1 x10 x11 (wrap64 (x12 + 1)))))) else (if x105000 = 1 then (if x105001 < (-1099511627776) then (some false) else (if x105001 > 1099511627776 then (some false) else (if x105002 < 0 then (some false) else (if x105002 > 2 then (some false) else (laws_readIn.l0 k x0 x1 x10 x11 (wrap64 (x12 + 1))))))) else (laws_readIn.l0 k x0 x1 x10 x11 (wrap64 (x12 + 1))))) else (some false))
end
def laws_readIn.f (k : Nat) (l0 : List (S32)) (l1 : List Int) : Option (Bool) := laws_readIn.l0 k l0 l1 l0 (l0.length : Int) 0
theorem laws_readIn.mono_l : ∀ k, (∀ y0 y1 y2 y3 y4, LeO (laws_readIn.l0 k y0 y1 y2 y3 y4) (laws_readIn.l0 (k + 1) y0 y1 y2 y3 y4)) ∧ (∀ y0 y1 y2 y3 y4 y5 y6 y7 y8 y9 y10 y11, LeO (laws_readIn.l1 k y0 y1 y2 y3 y4 y5 y6 y7 y8 y9 y10 y11) (laws_readIn.l1 (k + 1) y0 y1 y2 y3 y4 y5 y6 y7 y8 y9 y10 y11))
  | 0 => ⟨fun _ _ _ _ _ r h => by simp [laws_readIn.l0] at h, fun _ _ _ _ _ _ _ _ _ _ _ _ r h => by simp [laws_readIn.l1] at h⟩
  | k + 1 => by
    obtain ⟨ih0, ih1⟩ := laws_readIn.mono_l k
    refine ⟨?_, ?_⟩
    · intro y0 y1 y2 y3 y4
      unfold laws_readIn.l0
      repeat' first
      | (with_reducible exact ih0 _ _ _ _ _)
      | (with_reducible exact ih1 _ _ _ _ _ _ _ _ _ _ _ _)
      | (with_reducible exact LeO.refl _)
      | (with_reducible exact LeO.none _)
      | (with_reducible refine LeO.ite ?_ ?_)
      | (with_reducible refine LeO.bind ?_ (fun _ => ?_))
      | exact ih0 _ _ _ _ _
      | exact ih1 _ _ _ _ _ _ _ _ _ _ _ _
      | exact LeO.none _
      | refine LeO.ite ?_ ?_
      | refine LeO.bind ?_ (fun _ => ?_)
    · intro y0 y1 y2 y3 y4 y5 y6 y7 y8 y9 y10 y11
      unfold laws_readIn.l1
      repeat' first
      | (with_reducible exact ih0 _ _ _ _ _)
      | (with_reducible exact ih1 _ _ _ _ _ _ _ _ _ _ _ _)
      | (with_reducible exact LeO.refl _)
      | (with_reducible exact LeO.none _)
      | (with_reducible refine LeO.ite ?_ ?_)
      | (with_reducible refine LeO.bind ?_ (fun _ => ?_))
      | exact ih0 _ _ _ _ _
      | exact ih1 _ _ _ _ _ _ _ _ _ _ _ _
      | exact LeO.none _
      | refine LeO.ite ?_ ?_
      | refine LeO.bind ?_ (fun _ => ?_)
theorem laws_readIn.mono : ∀ a0 a1 k, LeO (laws_readIn.f k a0 a1) (laws_readIn.f (k + 1) a0 a1) := by
  intro a0 a1 k
  obtain ⟨ih0, ih1⟩ := laws_readIn.mono_l k
  unfold laws_readIn.f
  repeat' first
      | (with_reducible exact ih0 _ _ _ _ _)
      | (with_reducible exact ih1 _ _ _ _ _ _ _ _ _ _ _ _)
      | (with_reducible exact LeO.refl _)
      | (with_reducible exact LeO.none _)
      | (with_reducible refine LeO.ite ?_ ?_)
      | (with_reducible refine LeO.bind ?_ (fun _ => ?_))
      | exact ih0 _ _ _ _ _
      | exact ih1 _ _ _ _ _ _ _ _ _ _ _ _
      | exact LeO.none _
      | refine LeO.ite ?_ ?_
      | refine LeO.bind ?_ (fun _ => ?_)
set_option maxHeartbeats 8000000 in
set_option maxRecDepth 100000 in
theorem laws_readIn.calls (k : Nat) (A0 : Option Addr) (c0 : Nat) (l0 : List (S32)) (A1 : Option Addr) (c1 : Nat) (l1 : List Int) (r : Bool) (w : World) (hr0 : Kd.C k32 w A0 l0.length l0) (hc0 : l0.length ≤ c0) (hr1 : Kd.C (Kd.int .i64) w A1 l1.length l1) (hc1 : l1.length ≤ c1) (h : laws_readIn.f k l0 l1 = some r) :
    Calls Tryd.prog 9 #[.slice A0 l0.length c0, .slice A1 l1.length c1] w fun e w' => e = .returned (.bool r) ∧ Below w.heap.size w w' := by
  have hu32 := Tryd.underlying32
  have HR0 := Aside0.mk hr0
  have HC0 := Aside0.mk hc0
  clear hr0 hc0
  have HR1 := Aside0.mk hr1
  have HC1 := Aside0.mk hc1
  clear hr1 hc1
  have HB := Aside0.mk (Below.refl w.heap.size w)
  have H : (laws_readIn.l0 k l0 l1 l0 (l0.length : Int) 0) = some r := h
  clear h
  have H' := Aside0.mk H
  clear H
  go_enter Tryd.func9, Tryd.ntmps9
  go_wp2
  go_loopg [12] k (fun kq v12 w' => ∃ (x12_1 : Int), v12 = .int .i64 x12_1 ∧ Aside0 (laws_readIn.l0 kq l0 l1 l0 (l0.length : Int) x12_1 = some r) ∧ Aside0 (kq ≤ k) ∧ Aside0 (Below w.heap.size w w'))
  case atStart => exact ⟨(0), (by first | rfl | (simp; done) | (simp [*]; done)), H', ⟨Nat.le_refl _⟩, ⟨by repeat (first | (with_reducible first | exact HB.out | apply below_alloc | apply pw_below_drewN | apply below_drew1) | exact HB.out)⟩⟩
  case round =>
    clear H'
    try clear c1
    try clear p2
    obtain ⟨x12_1, rfl, HA, HK1, HB⟩ := hrel
    cases gk with
    | zero => exact absurd HA.out (by simp [laws_readIn.l0])
    | succ k1 =>
      have H := HA.out
      clear HA
      simp only [laws_readIn.l0] at H
      by_cases c3 : x12_1 < (l0.length : Int)
      · rw [if_pos c3] at H
        have c3b0 : decide (x12_1 < (l0.length : Int)) = true := decide_eq_true c3
        clear c3
        by_cases c4 : 0 ≤ x12_1
        · rw [if_pos c4] at H
          have c4b0 : decide (0 ≤ x12_1) = true := decide_eq_true c4
          clear c4
          by_cases c5 : x12_1 < (l0.length : Int)
          · rw [if_pos c5] at H
            have c5b0 : decide (x12_1 < (l0.length : Int)) = true := decide_eq_true c5
            clear c5
            have H' := Aside0.mk H
            clear H
            have p103 : 0 ≤ (x12_1 : Int) := of_decide_eq_true (by first | (with_reducible assumption) | assumption)
            have q103 : x12_1 < (l0.length : Int) := of_decide_eq_true (by first | (with_reducible assumption) | assumption)
            obtain ⟨ad103, e103, hx103_0, hx103_1, hx103_2⟩ := at_T32 HR0.out x12_1 p103 q103
            cases e103
            replace hx103_0 := (HB.out.cell (World.block_lt_of_cell? w _ hx103_0)).trans hx103_0
            replace hx103_1 := (HB.out.cell (World.block_lt_of_cell? w _ hx103_1)).trans hx103_1
            replace hx103_2 := (HB.out.cell (World.block_lt_of_cell? w _ hx103_2)).trans hx103_2
            replace p103 := eq_true p103
            replace q103 := eq_true q103
            go_wp2_with (first | ((with_reducible refine gate_dst (N := 6) rfl ?_); refine box_event ?hg (N := 6) ?hd (cs := #[.int .i64 0, .int .i64 0, .int .i64 0]) (t := 32) ?hr ?_; (case hd => rfl); (case hg => rfl); (case hr => first | (go_simp; done) | (go_simp; rfl)); intro gb104 hg w6 hbox hb; have n0_ := Aside0.mk (below_step (by repeat (first | (with_reducible first | exact HB.out | apply below_alloc | apply pw_below_drewN | apply below_drew1) | exact HB.out)) hb); have n1_ := Aside0.mk (hbox); have n2_ := Aside0.mk ((by rw [hg]; exact (below_size (by repeat (first | (with_reducible first | exact HB.out | apply below_alloc | apply pw_below_drewN | apply below_drew1) | exact HB.out))) : w.heap.size ≤ gb104)); have n3_ := Aside0.mk ((by rw [hg]; exact (below_size (by repeat (first | (with_reducible first | exact HB.out | apply below_alloc | apply pw_below_drewN | apply below_drew1) | exact HB.out))) : w.heap.size ≤ gb104)); clear HB; have HB := n0_; have BK104 := n1_; have GW104 := n2_; have GE104 := n3_; clear n0_ n1_ n2_ n3_; clear hb hbox hg; have hcz7_0 : w6.cell? ⟨gb104, 0, none⟩ = some (.int .i64 0) := (blk_cell BK104.out 0).trans rfl; have hcz7_1 : w6.cell? ⟨gb104, 1, none⟩ = some (.int .i64 0) := (blk_cell BK104.out 1).trans rfl; have hcz7_2 : w6.cell? ⟨gb104, 2, none⟩ = some (.int .i64 0) := (blk_cell BK104.out 2).trans rfl; have hfz7_0 := blk_frozen BK104.out 0; have hfz7_1 := blk_frozen BK104.out 1; have hfz7_2 := blk_frozen BK104.out 2))
            go_loopg [7, 18] k1 (fun kq v7 v18 w' => ∃ (x7_2 : Bool) (x18_2 : Int), v7 = .bool x7_2 ∧ v18 = .int .i64 x18_2 ∧ Aside0 (laws_readIn.l1 kq l0 l1 x7_2 l0 (l0.length : Int) x12_1 l1 (l1.length : Int) x18_2 ((rd_T32 l0 x12_1).f0) ((rd_T32 l0 x12_1).f1) ((rd_T32 l0 x12_1).f2) = some r) ∧ Aside0 (kq ≤ k1) ∧ Aside0 (w'.heap[gb104]? = some (.cells #[.int .i64 ((rd_T32 l0 x12_1).f0), .int .i64 ((rd_T32 l0 x12_1).f1), .int .i64 ((rd_T32 l0 x12_1).f2)] 32 (0, 0))) ∧ Aside0 (Below w.heap.size w w'))
            case atStart => exact ⟨(false), (0), (by first | rfl | (simp; done) | (simp [*]; done)), (by first | rfl | (simp; done) | (simp [*]; done)), H', ⟨Nat.le_refl _⟩, ⟨by (with_reducible repeat (first | refine blk_drewN ?_ _ | refine blk_drew ?_ | refine blk_alloc ?_ _)); refine blk_put (cs := #[.int .i64 ((rd_T32 l0 x12_1).f0), .int .i64 ((rd_T32 l0 x12_1).f1), .int .i64 0]) ?_ 2 _ rfl; (with_reducible repeat (first | refine blk_drewN ?_ _ | refine blk_drew ?_ | refine blk_alloc ?_ _)); refine blk_put (cs := #[.int .i64 ((rd_T32 l0 x12_1).f0), .int .i64 0, .int .i64 0]) ?_ 1 _ rfl; (with_reducible repeat (first | refine blk_drewN ?_ _ | refine blk_drew ?_ | refine blk_alloc ?_ _)); refine blk_put (cs := #[.int .i64 0, .int .i64 0, .int .i64 0]) ?_ 0 _ rfl; (with_reducible repeat (first | refine blk_drewN ?_ _ | refine blk_drew ?_ | refine blk_alloc ?_ _)); exact BK104.out⟩, ⟨by repeat (first | (with_reducible first | exact HB.out | apply below_alloc | apply pw_below_drewN | apply below_drew1 | refine below_set ?_ GE104.out) | exact HB.out)⟩⟩
            case round =>
              clear H'
              try clear c1
              try clear p1
              try clear q1
              try clear hx1
              try clear p2
              try clear c3
              try clear c3b0
              try clear c4
              try clear c4b0
              try clear c5
              try clear c5b0
              try clear hcz7_0
              try clear hcz7_1
              try clear hcz7_2
              try clear hfz7_0
              try clear hfz7_1
              try clear hfz7_2
              try clear hx103_0
              try clear hx103_1
              try clear hx103_2
              try clear p103
              try clear p2
              try clear q103
              obtain ⟨x7_2, x18_2, rfl, rfl, HA, HK2, BK104, HB⟩ := hrel
              cases gk with
              | zero => exact absurd HA.out (by simp [laws_readIn.l1])
              | succ k2 =>
                have H := HA.out
                clear HA
                simp only [laws_readIn.l1] at H
                by_cases c8 : x18_2 < (l1.length : Int)
                · rw [if_pos c8] at H
                  have c8b0 : decide (x18_2 < (l1.length : Int)) = true := decide_eq_true c8
                  clear c8
                  by_cases c9 : 0 ≤ x18_2
                  · rw [if_pos c9] at H
                    have c9b0 : decide (0 ≤ x18_2) = true := decide_eq_true c9
                    clear c9
                    by_cases c10 : x18_2 < (l1.length : Int)
                    · rw [if_pos c10] at H
                      have c10b0 : decide (x18_2 < (l1.length : Int)) = true := decide_eq_true c10
                      clear c10
                      by_cases c11 : x7_2 = true
                      · subst c11
                        have H1 : (laws_readIn.l1 k2 l0 l1 true l0 (l0.length : Int) x12_1 l1 (l1.length : Int) (wrap64 (x18_2 + 1)) ((rd_T32 l0 x12_1).f0) ((rd_T32 l0 x12_1).f1) ((rd_T32 l0 x12_1).f2)) = some r := by rw [if_pos rfl] at H; exact H
                        clear H
                        have H := H1
                        clear H1
                        have H' := Aside0.mk H
                        clear H
                        have p105 : 0 ≤ (x18_2 : Int) := of_decide_eq_true (by first | (with_reducible assumption) | assumption)
                        have q105 : x18_2 < (l1.length : Int) := of_decide_eq_true (by first | (with_reducible assumption) | assumption)
                        obtain ⟨ad105, e105, hx105_0⟩ := Kd.at_int HR1.out x18_2 p105 q105
                        cases e105
                        replace hx105_0 := (HB.out.cell (World.block_lt_of_cell? w _ hx105_0)).trans hx105_0
                        replace p105 := eq_true p105
                        replace q105 := eq_true q105
                        go_wp2
                        go_roundg k2
                        case measure => have := HK1.out; have := HK2.out; omega
                        case rel => exact ⟨(true), (wrap64 (x18_2 + 1)), (by first | rfl | (simp; done) | (simp [*]; done)), (by first | rfl | (simp; done) | (simp [*]; done)), H', ⟨by have := HK1.out; have := HK2.out; omega⟩, ⟨by (with_reducible repeat (first | refine blk_drewN ?_ _ | refine blk_drew ?_ | refine blk_alloc ?_ _)); exact BK104.out⟩, ⟨by repeat (first | (with_reducible first | exact HB.out | apply below_alloc | apply pw_below_drewN | apply below_drew1 | refine below_set ?_ GE104.out) | exact HB.out)⟩⟩
                      · replace c11 := Bool.eq_false_iff.mpr c11
                        subst c11
                        have H1 : (laws_readIn.l1 k2 l0 l1 (((rd_T32 l0 x12_1).f0) == (rd l1 x18_2)) l0 (l0.length : Int) x12_1 l1 (l1.length : Int) (wrap64 (x18_2 + 1)) ((rd_T32 l0 x12_1).f0) ((rd_T32 l0 x12_1).f1) ((rd_T32 l0 x12_1).f2)) = some r := by rw [if_neg (show ¬ (false = true) by decide)] at H; exact H
                        clear H
                        have H := H1
                        clear H1
                        have H' := Aside0.mk H
                        clear H
                        have p105 : 0 ≤ (x18_2 : Int) := of_decide_eq_true (by first | (with_reducible assumption) | assumption)
                        have q105 : x18_2 < (l1.length : Int) := of_decide_eq_true (by first | (with_reducible assumption) | assumption)
                        obtain ⟨ad105, e105, hx105_0⟩ := Kd.at_int HR1.out x18_2 p105 q105
                        cases e105
                        replace hx105_0 := (HB.out.cell (World.block_lt_of_cell? w _ hx105_0)).trans hx105_0
                        replace p105 := eq_true p105
                        replace q105 := eq_true q105
                        have hcz12_0 : wr.cell? ⟨gb104, 0, none⟩ = some (.int .i64 ((rd_T32 l0 x12_1).f0)) := (blk_cell BK104.out 0).trans rfl
                        have hcz12_1 : wr.cell? ⟨gb104, 1, none⟩ = some (.int .i64 ((rd_T32 l0 x12_1).f1)) := (blk_cell BK104.out 1).trans rfl
                        have hcz12_2 : wr.cell? ⟨gb104, 2, none⟩ = some (.int .i64 ((rd_T32 l0 x12_1).f2)) := (blk_cell BK104.out 2).trans rfl
                        have hfz12_0 := blk_frozen BK104.out 0
                        have hfz12_1 := blk_frozen BK104.out 1
                        have hfz12_2 := blk_frozen BK104.out 2
                        go_wp2
                        go_roundg k2
                        case measure => have := HK1.out; have := HK2.out; omega
                        case rel => exact ⟨((((rd_T32 l0 x12_1).f0) == (rd l1 x18_2))), (wrap64 (x18_2 + 1)), (by first | rfl | (simp; done) | (simp [*]; done)), (by first | rfl | (simp; done) | (simp [*]; done)), H', ⟨by have := HK1.out; have := HK2.out; omega⟩, ⟨by (with_reducible repeat (first | refine blk_drewN ?_ _ | refine blk_drew ?_ | refine blk_alloc ?_ _)); exact BK104.out⟩, ⟨by repeat (first | (with_reducible first | exact HB.out | apply below_alloc | apply pw_below_drewN | apply below_drew1 | refine below_set ?_ GE104.out) | exact HB.out)⟩⟩
                    · rw [if_neg c10] at H
                      exact absurd H (by simp)
                  · rw [if_neg c9] at H
                    exact absurd H (by simp)
                · rw [if_neg c8] at H
                  have c8b0 : decide (x18_2 < (l1.length : Int)) = false := decide_eq_false c8
                  clear c8
                  by_cases c13 : x7_2 = true
                  · subst c13
                    have H1 : (if ((rd_T32 l0 x12_1).f0) = 0 then (if ((rd_T32 l0 x12_1).f1) < 1 then (some false) else (if ((rd_T32 l0 x12_1).f1) > 5000 then (some false) else (if ((rd_T32 l0 x12_1).f0) = 1 then (if ((rd_T32 l0 x12_1).f1) < (-1099511627776) then (some false) else (if ((rd_T32 l0 x12_1).f1) > 1099511627776 then (some false) else (if ((rd_T32 l0 x12_1).f2) < 0 then (some false) else (if ((rd_T32 l0 x12_1).f2) > 2 then (some false) else (laws_readIn.l0 k2 l0 l1 l0 (l0.length : Int) (wrap64 (x12_1 + 1))))))) else (laws_readIn.l0 k2 l0 l1 l0 (l0.length : Int) (wrap64 (x12_1 + 1)))))) else (if ((rd_T32 l0 x12_1).f0) = 1 then (if ((rd_T32 l0 x12_1).f1) < (-1099511627776) then (some false) else (if ((rd_T32 l0 x12_1).f1) > 1099511627776 then (some false) else (if ((rd_T32 l0 x12_1).f2) < 0 then (some false) else (if ((rd_T32 l0 x12_1).f2) > 2 then (some false) else (laws_readIn.l0 k2 l0 l1 l0 (l0.length : Int) (wrap64 (x12_1 + 1))))))) else (laws_readIn.l0 k2 l0 l1 l0 (l0.length : Int) (wrap64 (x12_1 + 1))))) = some r := by rw [if_pos rfl] at H; exact H
                    clear H
                    have H := H1
                    clear H1
                    by_cases c14 : ((rd_T32 l0 x12_1).f0) = 0
                    · rw [if_pos c14] at H
                      have c14b0 : (((rd_T32 l0 x12_1).f0) == 0) = true := beq_iff_eq.mpr c14
                      have c14b1 : (((rd_T32 l0 x12_1).f0) != 0) = false := bne_eq_false_iff_eq.mpr c14
                      clear c14
                      by_cases c15 : ((rd_T32 l0 x12_1).f1) < 1
                      · rw [if_pos c15] at H
                        have c15b0 : decide (((rd_T32 l0 x12_1).f1) < 1) = true := decide_eq_true c15
                        clear c15
                        obtain rfl := Option.some.inj H
                        have hcz16_0 : wr.cell? ⟨gb104, 0, none⟩ = some (.int .i64 ((rd_T32 l0 x12_1).f0)) := (blk_cell BK104.out 0).trans rfl
                        have hcz16_1 : wr.cell? ⟨gb104, 1, none⟩ = some (.int .i64 ((rd_T32 l0 x12_1).f1)) := (blk_cell BK104.out 1).trans rfl
                        have hcz16_2 : wr.cell? ⟨gb104, 2, none⟩ = some (.int .i64 ((rd_T32 l0 x12_1).f2)) := (blk_cell BK104.out 2).trans rfl
                        have hfz16_0 := blk_frozen BK104.out 0
                        have hfz16_1 := blk_frozen BK104.out 1
                        have hfz16_2 := blk_frozen BK104.out 2
                        go_wp2
                        go_ret
                        exact ⟨by first | rfl | (simp [errW_none, errW_some] <;> rfl) | (simp [*, errW_none, errW_some] <;> rfl), by repeat (first | (with_reducible first | exact HB.out | apply below_alloc | apply pw_below_drewN | apply below_drew1 | refine below_set ?_ GE104.out) | exact HB.out)⟩
                      · rw [if_neg c15] at H
                        have c15b0 : decide (((rd_T32 l0 x12_1).f1) < 1) = false := decide_eq_false c15
                        clear c15
                        by_cases c17 : ((rd_T32 l0 x12_1).f1) > 5000
                        · rw [if_pos c17] at H
                          have c17b0 : decide (5000 < ((rd_T32 l0 x12_1).f1)) = true := decide_eq_true c17
                          clear c17
                          obtain rfl := Option.some.inj H
                          have hcz18_0 : wr.cell? ⟨gb104, 0, none⟩ = some (.int .i64 ((rd_T32 l0 x12_1).f0)) := (blk_cell BK104.out 0).trans rfl
                          have hcz18_1 : wr.cell? ⟨gb104, 1, none⟩ = some (.int .i64 ((rd_T32 l0 x12_1).f1)) := (blk_cell BK104.out 1).trans rfl
                          have hcz18_2 : wr.cell? ⟨gb104, 2, none⟩ = some (.int .i64 ((rd_T32 l0 x12_1).f2)) := (blk_cell BK104.out 2).trans rfl
                          have hfz18_0 := blk_frozen BK104.out 0
                          have hfz18_1 := blk_frozen BK104.out 1
                          have hfz18_2 := blk_frozen BK104.out 2
                          go_wp2
                          go_ret
                          exact ⟨by first | rfl | (simp [errW_none, errW_some] <;> rfl) | (simp [*, errW_none, errW_some] <;> rfl), by repeat (first | (with_reducible first | exact HB.out | apply below_alloc | apply pw_below_drewN | apply below_drew1 | refine below_set ?_ GE104.out) | exact HB.out)⟩
                        · rw [if_neg c17] at H
                          have c17b0 : decide (5000 < ((rd_T32 l0 x12_1).f1)) = false := decide_eq_false c17
                          clear c17
                          by_cases c19 : ((rd_T32 l0 x12_1).f0) = 1
                          · rw [if_pos c19] at H
                            have c19b0 : (((rd_T32 l0 x12_1).f0) == 1) = true := beq_iff_eq.mpr c19
                            have c19b1 : (((rd_T32 l0 x12_1).f0) != 1) = false := bne_eq_false_iff_eq.mpr c19
                            clear c19
                            by_cases c20 : ((rd_T32 l0 x12_1).f1) < (-1099511627776)
                            · rw [if_pos c20] at H
                              have c20b0 : decide (((rd_T32 l0 x12_1).f1) < (-1099511627776)) = true := decide_eq_true c20
                              clear c20
                              obtain rfl := Option.some.inj H
                              have hcz21_0 : wr.cell? ⟨gb104, 0, none⟩ = some (.int .i64 ((rd_T32 l0 x12_1).f0)) := (blk_cell BK104.out 0).trans rfl
                              have hcz21_1 : wr.cell? ⟨gb104, 1, none⟩ = some (.int .i64 ((rd_T32 l0 x12_1).f1)) := (blk_cell BK104.out 1).trans rfl
                              have hcz21_2 : wr.cell? ⟨gb104, 2, none⟩ = some (.int .i64 ((rd_T32 l0 x12_1).f2)) := (blk_cell BK104.out 2).trans rfl
                              have hfz21_0 := blk_frozen BK104.out 0
                              have hfz21_1 := blk_frozen BK104.out 1
                              have hfz21_2 := blk_frozen BK104.out 2
                              go_wp2
                              go_ret
                              exact ⟨by first | rfl | (simp [errW_none, errW_some] <;> rfl) | (simp [*, errW_none, errW_some] <;> rfl), by repeat (first | (with_reducible first | exact HB.out | apply below_alloc | apply pw_below_drewN | apply below_drew1 | refine below_set ?_ GE104.out) | exact HB.out)⟩
                            · rw [if_neg c20] at H
                              have c20b0 : decide (((rd_T32 l0 x12_1).f1) < (-1099511627776)) = false := decide_eq_false c20
                              clear c20
                              by_cases c22 : ((rd_T32 l0 x12_1).f1) > 1099511627776
                              · rw [if_pos c22] at H
                                have c22b0 : decide (1099511627776 < ((rd_T32 l0 x12_1).f1)) = true := decide_eq_true c22
                                clear c22
                                obtain rfl := Option.some.inj H
                                have hcz23_0 : wr.cell? ⟨gb104, 0, none⟩ = some (.int .i64 ((rd_T32 l0 x12_1).f0)) := (blk_cell BK104.out 0).trans rfl
                                have hcz23_1 : wr.cell? ⟨gb104, 1, none⟩ = some (.int .i64 ((rd_T32 l0 x12_1).f1)) := (blk_cell BK104.out 1).trans rfl
                                have hcz23_2 : wr.cell? ⟨gb104, 2, none⟩ = some (.int .i64 ((rd_T32 l0 x12_1).f2)) := (blk_cell BK104.out 2).trans rfl
                                have hfz23_0 := blk_frozen BK104.out 0
                                have hfz23_1 := blk_frozen BK104.out 1
                                have hfz23_2 := blk_frozen BK104.out 2
                                go_wp2
                                go_ret
                                exact ⟨by first | rfl | (simp [errW_none, errW_some] <;> rfl) | (simp [*, errW_none, errW_some] <;> rfl), by repeat (first | (with_reducible first | exact HB.out | apply below_alloc | apply pw_below_drewN | apply below_drew1 | refine below_set ?_ GE104.out) | exact HB.out)⟩
                              · rw [if_neg c22] at H
                                have c22b0 : decide (1099511627776 < ((rd_T32 l0 x12_1).f1)) = false := decide_eq_false c22
                                clear c22
                                by_cases c24 : ((rd_T32 l0 x12_1).f2) < 0
                                · rw [if_pos c24] at H
                                  have c24b0 : decide (((rd_T32 l0 x12_1).f2) < 0) = true := decide_eq_true c24
                                  clear c24
                                  obtain rfl := Option.some.inj H
                                  have hcz25_0 : wr.cell? ⟨gb104, 0, none⟩ = some (.int .i64 ((rd_T32 l0 x12_1).f0)) := (blk_cell BK104.out 0).trans rfl
                                  have hcz25_1 : wr.cell? ⟨gb104, 1, none⟩ = some (.int .i64 ((rd_T32 l0 x12_1).f1)) := (blk_cell BK104.out 1).trans rfl
                                  have hcz25_2 : wr.cell? ⟨gb104, 2, none⟩ = some (.int .i64 ((rd_T32 l0 x12_1).f2)) := (blk_cell BK104.out 2).trans rfl
                                  have hfz25_0 := blk_frozen BK104.out 0
                                  have hfz25_1 := blk_frozen BK104.out 1
                                  have hfz25_2 := blk_frozen BK104.out 2
                                  go_wp2
                                  go_ret
                                  exact ⟨by first | rfl | (simp [errW_none, errW_some] <;> rfl) | (simp [*, errW_none, errW_some] <;> rfl), by repeat (first | (with_reducible first | exact HB.out | apply below_alloc | apply pw_below_drewN | apply below_drew1 | refine below_set ?_ GE104.out) | exact HB.out)⟩
                                · rw [if_neg c24] at H
                                  have c24b0 : decide (((rd_T32 l0 x12_1).f2) < 0) = false := decide_eq_false c24
                                  clear c24
                                  by_cases c26 : ((rd_T32 l0 x12_1).f2) > 2
                                  · rw [if_pos c26] at H
                                    have c26b0 : decide (2 < ((rd_T32 l0 x12_1).f2)) = true := decide_eq_true c26
                                    clear c26
                                    obtain rfl := Option.some.inj H
                                    have hcz27_0 : wr.cell? ⟨gb104, 0, none⟩ = some (.int .i64 ((rd_T32 l0 x12_1).f0)) := (blk_cell BK104.out 0).trans rfl
                                    have hcz27_1 : wr.cell? ⟨gb104, 1, none⟩ = some (.int .i64 ((rd_T32 l0 x12_1).f1)) := (blk_cell BK104.out 1).trans rfl
                                    have hcz27_2 : wr.cell? ⟨gb104, 2, none⟩ = some (.int .i64 ((rd_T32 l0 x12_1).f2)) := (blk_cell BK104.out 2).trans rfl
                                    have hfz27_0 := blk_frozen BK104.out 0
                                    have hfz27_1 := blk_frozen BK104.out 1
                                    have hfz27_2 := blk_frozen BK104.out 2
                                    go_wp2
                                    go_ret
                                    exact ⟨by first | rfl | (simp [errW_none, errW_some] <;> rfl) | (simp [*, errW_none, errW_some] <;> rfl), by repeat (first | (with_reducible first | exact HB.out | apply below_alloc | apply pw_below_drewN | apply below_drew1 | refine below_set ?_ GE104.out) | exact HB.out)⟩
                                  · rw [if_neg c26] at H
                                    have c26b0 : decide (2 < ((rd_T32 l0 x12_1).f2)) = false := decide_eq_false c26
                                    clear c26
                                    have H' := Aside0.mk H
                                    clear H
                                    have hcz28_0 : wr.cell? ⟨gb104, 0, none⟩ = some (.int .i64 ((rd_T32 l0 x12_1).f0)) := (blk_cell BK104.out 0).trans rfl
                                    have hcz28_1 : wr.cell? ⟨gb104, 1, none⟩ = some (.int .i64 ((rd_T32 l0 x12_1).f1)) := (blk_cell BK104.out 1).trans rfl
                                    have hcz28_2 : wr.cell? ⟨gb104, 2, none⟩ = some (.int .i64 ((rd_T32 l0 x12_1).f2)) := (blk_cell BK104.out 2).trans rfl
                                    have hfz28_0 := blk_frozen BK104.out 0
                                    have hfz28_1 := blk_frozen BK104.out 1
                                    have hfz28_2 := blk_frozen BK104.out 2
                                    go_wp2
                                    go_roundg k2
                                    case measure => have := HK1.out; have := HK2.out; omega
                                    case rel => exact ⟨(wrap64 (x12_1 + 1)), (by first | rfl | (simp; done) | (simp [*]; done)), H', ⟨by have := HK1.out; have := HK2.out; omega⟩, ⟨by repeat (first | (with_reducible first | exact HB.out | apply below_alloc | apply pw_below_drewN | apply below_drew1 | refine below_set ?_ GE104.out) | exact HB.out)⟩⟩
                          · rw [if_neg c19] at H
                            have c19b0 : (((rd_T32 l0 x12_1).f0) == 1) = false := beq_eq_false_iff_ne.mpr c19
                            have c19b1 : (((rd_T32 l0 x12_1).f0) != 1) = true := bne_iff_ne.mpr c19
                            have H' := Aside0.mk H
                            clear H
                            have hcz29_0 : wr.cell? ⟨gb104, 0, none⟩ = some (.int .i64 ((rd_T32 l0 x12_1).f0)) := (blk_cell BK104.out 0).trans rfl
                            have hcz29_1 : wr.cell? ⟨gb104, 1, none⟩ = some (.int .i64 ((rd_T32 l0 x12_1).f1)) := (blk_cell BK104.out 1).trans rfl
                            have hcz29_2 : wr.cell? ⟨gb104, 2, none⟩ = some (.int .i64 ((rd_T32 l0 x12_1).f2)) := (blk_cell BK104.out 2).trans rfl
                            have hfz29_0 := blk_frozen BK104.out 0
                            have hfz29_1 := blk_frozen BK104.out 1
                            have hfz29_2 := blk_frozen BK104.out 2
                            go_wp2
                            go_roundg k2
                            case measure => have := HK1.out; have := HK2.out; omega
                            case rel => exact ⟨(wrap64 (x12_1 + 1)), (by first | rfl | (simp; done) | (simp [*]; done)), H', ⟨by have := HK1.out; have := HK2.out; omega⟩, ⟨by repeat (first | (with_reducible first | exact HB.out | apply below_alloc | apply pw_below_drewN | apply below_drew1 | refine below_set ?_ GE104.out) | exact HB.out)⟩⟩
                    · rw [if_neg c14] at H
                      have c14b0 : (((rd_T32 l0 x12_1).f0) == 0) = false := beq_eq_false_iff_ne.mpr c14
                      have c14b1 : (((rd_T32 l0 x12_1).f0) != 0) = true := bne_iff_ne.mpr c14
                      by_cases c30 : ((rd_T32 l0 x12_1).f0) = 1
                      · rw [if_pos c30] at H
                        have c30b0 : (((rd_T32 l0 x12_1).f0) == 1) = true := beq_iff_eq.mpr c30
                        have c30b1 : (((rd_T32 l0 x12_1).f0) != 1) = false := bne_eq_false_iff_eq.mpr c30
                        clear c30
                        by_cases c31 : ((rd_T32 l0 x12_1).f1) < (-1099511627776)
                        · rw [if_pos c31] at H
                          have c31b0 : decide (((rd_T32 l0 x12_1).f1) < (-1099511627776)) = true := decide_eq_true c31
                          clear c31
                          obtain rfl := Option.some.inj H
                          have hcz32_0 : wr.cell? ⟨gb104, 0, none⟩ = some (.int .i64 ((rd_T32 l0 x12_1).f0)) := (blk_cell BK104.out 0).trans rfl
                          have hcz32_1 : wr.cell? ⟨gb104, 1, none⟩ = some (.int .i64 ((rd_T32 l0 x12_1).f1)) := (blk_cell BK104.out 1).trans rfl
                          have hcz32_2 : wr.cell? ⟨gb104, 2, none⟩ = some (.int .i64 ((rd_T32 l0 x12_1).f2)) := (blk_cell BK104.out 2).trans rfl
                          have hfz32_0 := blk_frozen BK104.out 0
                          have hfz32_1 := blk_frozen BK104.out 1
                          have hfz32_2 := blk_frozen BK104.out 2
                          go_wp2
                          go_ret
                          exact ⟨by first | rfl | (simp [errW_none, errW_some] <;> rfl) | (simp [*, errW_none, errW_some] <;> rfl), by repeat (first | (with_reducible first | exact HB.out | apply below_alloc | apply pw_below_drewN | apply below_drew1 | refine below_set ?_ GE104.out) | exact HB.out)⟩
                        · rw [if_neg c31] at H
                          have c31b0 : decide (((rd_T32 l0 x12_1).f1) < (-1099511627776)) = false := decide_eq_false c31
                          clear c31
                          by_cases c33 : ((rd_T32 l0 x12_1).f1) > 1099511627776
                          · rw [if_pos c33] at H
                            have c33b0 : decide (1099511627776 < ((rd_T32 l0 x12_1).f1)) = true := decide_eq_true c33
                            clear c33
                            obtain rfl := Option.some.inj H
                            have hcz34_0 : wr.cell? ⟨gb104, 0, none⟩ = some (.int .i64 ((rd_T32 l0 x12_1).f0)) := (blk_cell BK104.out 0).trans rfl
                            have hcz34_1 : wr.cell? ⟨gb104, 1, none⟩ = some (.int .i64 ((rd_T32 l0 x12_1).f1)) := (blk_cell BK104.out 1).trans rfl
                            have hcz34_2 : wr.cell? ⟨gb104, 2, none⟩ = some (.int .i64 ((rd_T32 l0 x12_1).f2)) := (blk_cell BK104.out 2).trans rfl
                            have hfz34_0 := blk_frozen BK104.out 0
                            have hfz34_1 := blk_frozen BK104.out 1
                            have hfz34_2 := blk_frozen BK104.out 2
                            go_wp2
                            go_ret
                            exact ⟨by first | rfl | (simp [errW_none, errW_some] <;> rfl) | (simp [*, errW_none, errW_some] <;> rfl), by repeat (first | (with_reducible first | exact HB.out | apply below_alloc | apply pw_below_drewN | apply below_drew1 | refine below_set ?_ GE104.out) | exact HB.out)⟩
                          · rw [if_neg c33] at H
                            have c33b0 : decide (1099511627776 < ((rd_T32 l0 x12_1).f1)) = false := decide_eq_false c33
                            clear c33
                            by_cases c35 : ((rd_T32 l0 x12_1).f2) < 0
                            · rw [if_pos c35] at H
                              have c35b0 : decide (((rd_T32 l0 x12_1).f2) < 0) = true := decide_eq_true c35
                              clear c35
                              obtain rfl := Option.some.inj H
                              have hcz36_0 : wr.cell? ⟨gb104, 0, none⟩ = some (.int .i64 ((rd_T32 l0 x12_1).f0)) := (blk_cell BK104.out 0).trans rfl
                              have hcz36_1 : wr.cell? ⟨gb104, 1, none⟩ = some (.int .i64 ((rd_T32 l0 x12_1).f1)) := (blk_cell BK104.out 1).trans rfl
                              have hcz36_2 : wr.cell? ⟨gb104, 2, none⟩ = some (.int .i64 ((rd_T32 l0 x12_1).f2)) := (blk_cell BK104.out 2).trans rfl
                              have hfz36_0 := blk_frozen BK104.out 0
                              have hfz36_1 := blk_frozen BK104.out 1
                              have hfz36_2 := blk_frozen BK104.out 2
                              go_wp2
                              go_ret
                              exact ⟨by first | rfl | (simp [errW_none, errW_some] <;> rfl) | (simp [*, errW_none, errW_some] <;> rfl), by repeat (first | (with_reducible first | exact HB.out | apply below_alloc | apply pw_below_drewN | apply below_drew1 | refine below_set ?_ GE104.out) | exact HB.out)⟩
                            · rw [if_neg c35] at H
                              have c35b0 : decide (((rd_T32 l0 x12_1).f2) < 0) = false := decide_eq_false c35
                              clear c35
                              by_cases c37 : ((rd_T32 l0 x12_1).f2) > 2
                              · rw [if_pos c37] at H
                                have c37b0 : decide (2 < ((rd_T32 l0 x12_1).f2)) = true := decide_eq_true c37
                                clear c37
                                obtain rfl := Option.some.inj H
                                have hcz38_0 : wr.cell? ⟨gb104, 0, none⟩ = some (.int .i64 ((rd_T32 l0 x12_1).f0)) := (blk_cell BK104.out 0).trans rfl
                                have hcz38_1 : wr.cell? ⟨gb104, 1, none⟩ = some (.int .i64 ((rd_T32 l0 x12_1).f1)) := (blk_cell BK104.out 1).trans rfl
                                have hcz38_2 : wr.cell? ⟨gb104, 2, none⟩ = some (.int .i64 ((rd_T32 l0 x12_1).f2)) := (blk_cell BK104.out 2).trans rfl
                                have hfz38_0 := blk_frozen BK104.out 0
                                have hfz38_1 := blk_frozen BK104.out 1
                                have hfz38_2 := blk_frozen BK104.out 2
                                go_wp2
                                go_ret
                                exact ⟨by first | rfl | (simp [errW_none, errW_some] <;> rfl) | (simp [*, errW_none, errW_some] <;> rfl), by repeat (first | (with_reducible first | exact HB.out | apply below_alloc | apply pw_below_drewN | apply below_drew1 | refine below_set ?_ GE104.out) | exact HB.out)⟩
                              · rw [if_neg c37] at H
                                have c37b0 : decide (2 < ((rd_T32 l0 x12_1).f2)) = false := decide_eq_false c37
                                clear c37
                                have H' := Aside0.mk H
                                clear H
                                have hcz39_0 : wr.cell? ⟨gb104, 0, none⟩ = some (.int .i64 ((rd_T32 l0 x12_1).f0)) := (blk_cell BK104.out 0).trans rfl
                                have hcz39_1 : wr.cell? ⟨gb104, 1, none⟩ = some (.int .i64 ((rd_T32 l0 x12_1).f1)) := (blk_cell BK104.out 1).trans rfl
                                have hcz39_2 : wr.cell? ⟨gb104, 2, none⟩ = some (.int .i64 ((rd_T32 l0 x12_1).f2)) := (blk_cell BK104.out 2).trans rfl
                                have hfz39_0 := blk_frozen BK104.out 0
                                have hfz39_1 := blk_frozen BK104.out 1
                                have hfz39_2 := blk_frozen BK104.out 2
                                go_wp2
                                go_roundg k2
                                case measure => have := HK1.out; have := HK2.out; omega
                                case rel => exact ⟨(wrap64 (x12_1 + 1)), (by first | rfl | (simp; done) | (simp [*]; done)), H', ⟨by have := HK1.out; have := HK2.out; omega⟩, ⟨by repeat (first | (with_reducible first | exact HB.out | apply below_alloc | apply pw_below_drewN | apply below_drew1 | refine below_set ?_ GE104.out) | exact HB.out)⟩⟩
                      · rw [if_neg c30] at H
                        have c30b0 : (((rd_T32 l0 x12_1).f0) == 1) = false := beq_eq_false_iff_ne.mpr c30
                        have c30b1 : (((rd_T32 l0 x12_1).f0) != 1) = true := bne_iff_ne.mpr c30
                        have H' := Aside0.mk H
                        clear H
                        have hcz40_0 : wr.cell? ⟨gb104, 0, none⟩ = some (.int .i64 ((rd_T32 l0 x12_1).f0)) := (blk_cell BK104.out 0).trans rfl
                        have hcz40_1 : wr.cell? ⟨gb104, 1, none⟩ = some (.int .i64 ((rd_T32 l0 x12_1).f1)) := (blk_cell BK104.out 1).trans rfl
                        have hcz40_2 : wr.cell? ⟨gb104, 2, none⟩ = some (.int .i64 ((rd_T32 l0 x12_1).f2)) := (blk_cell BK104.out 2).trans rfl
                        have hfz40_0 := blk_frozen BK104.out 0
                        have hfz40_1 := blk_frozen BK104.out 1
                        have hfz40_2 := blk_frozen BK104.out 2
                        go_wp2
                        go_roundg k2
                        case measure => have := HK1.out; have := HK2.out; omega
                        case rel => exact ⟨(wrap64 (x12_1 + 1)), (by first | rfl | (simp; done) | (simp [*]; done)), H', ⟨by have := HK1.out; have := HK2.out; omega⟩, ⟨by repeat (first | (with_reducible first | exact HB.out | apply below_alloc | apply pw_below_drewN | apply below_drew1 | refine below_set ?_ GE104.out) | exact HB.out)⟩⟩
                  · replace c13 := Bool.eq_false_iff.mpr c13
                    subst c13
                    have H1 : (some false) = some r := by rw [if_neg (show ¬ (false = true) by decide)] at H; exact H
                    clear H
                    have H := H1
                    clear H1
                    obtain rfl := Option.some.inj H
                    go_wp2
                    go_ret
                    exact ⟨by first | rfl | (simp [errW_none, errW_some] <;> rfl) | (simp [*, errW_none, errW_some] <;> rfl), by repeat (first | (with_reducible first | exact HB.out | apply below_alloc | apply pw_below_drewN | apply below_drew1 | refine below_set ?_ GE104.out) | exact HB.out)⟩
          · rw [if_neg c5] at H
            exact absurd H (by simp)
        · rw [if_neg c4] at H
          exact absurd H (by simp)
      · rw [if_neg c3] at H
        have c3b0 : decide (x12_1 < (l0.length : Int)) = false := decide_eq_false c3
        clear c3
        obtain rfl := Option.some.inj H
        go_wp2
        go_ret
        exact ⟨by first | rfl | (simp [errW_none, errW_some] <;> rfl) | (simp [*, errW_none, errW_some] <;> rfl), by repeat (first | (with_reducible first | exact HB.out | apply below_alloc | apply pw_below_drewN | apply below_drew1) | exact HB.out)⟩

/-! ### impl_copied: function 18 -/
def impl_copied.f (l0 : List (List Int)) : Option ((List (List Int))) := (some (([] : List (List Int)) : List (List Int))).bind fun y106 => (if y106.length + l0.length < 5864062014805 then (some (y106 ++ l0)) else (none))
set_option maxHeartbeats 8000000 in
set_option maxRecDepth 100000 in
theorem impl_copied.calls (P0_ : Nat → Prop) (A0 : Option Addr) (c0 : Nat) (l0 : List (List Int)) (r : List (List Int)) (w : World) (hs0 : Kd.V (Kd.slice 5 (Kd.int .u8)) 29 w w.heap.size (fun k_ => P0_ k_) (.slice A0 l0.length c0) l0) (h : impl_copied.f l0 = some r) :
    Calls Tryd.prog 18 #[.slice A0 l0.length c0] w fun e w' => ∃ v0_ : Value, e = .returned (v0_) ∧ Kd.N (Kd.slice 5 (Kd.int .u8)) 29 w' w.heap.size (fun k_ => (P0_ k_ ∨ w.heap.size ≤ k_)) v0_ r ∧ Below w.heap.size w w' := by
  have HO0 := Aside0.mk (show Kd.V (Kd.slice 5 (Kd.int .u8)) 29 w w.heap.size (fun k_ => (P0_ k_ ∨ w.heap.size ≤ k_)) (.slice A0 l0.length c0) l0 from Kd.V_mono hs0 (fun k_ hk => .inl hk))
  have HB := Aside0.mk (Below.refl w.heap.size w)
  have H : ((some (([] : List (List Int)) : List (List Int))).bind fun y106 => (if y106.length + l0.length < 5864062014805 then (some (y106 ++ l0)) else (none))) = some r := h
  clear h
  obtain ⟨y106, hy106⟩ : ∃ y_ : List (List Int), y_ = (([] : List (List Int))) := ⟨_, rfl⟩
  replace H : (if y106.length + l0.length < 5864062014805 then (some (y106 ++ l0)) else (none)) = some r := by first | (rw [hy106]; with_reducible exact H) | (have H2_ := (Option.bind_some _ _).symm.trans H; rw [hy106]; with_reducible exact H2_) | (have H2_ := (Option.bind_some _ _).symm.trans H; with_reducible exact H2_) | with_reducible exact H | (rw [hy106]; exact H) | exact H
  have Ny106 := Aside0.mk hy106
  clear hy106
  by_cases c2 : y106.length + l0.length < 5864062014805
  · rw [if_pos c2] at H
    have LMc2 := Aside0.mk c2
    clear c2
    obtain ⟨y109, hy109⟩ : ∃ y_ : List (List Int), y_ = (y106 ++ l0) := ⟨_, rfl⟩
    replace H : (some y109) = some r := by first | (rw [hy109]; with_reducible exact H) | (have H2_ := (Option.bind_some _ _).symm.trans H; rw [hy109]; with_reducible exact H2_) | (have H2_ := (Option.bind_some _ _).symm.trans H; with_reducible exact H2_) | with_reducible exact H | (rw [hy109]; exact H) | exact H
    have Ny109 := Aside0.mk hy109
    clear hy109
    obtain rfl := Option.some.inj H
    go_enter Tryd.func18, Tryd.ntmps18
    go_wp2_with (first | ((with_reducible refine gate_dst (N := 3) rfl ?_); refine Kd.N_lit (Kd.slice 5 (Kd.int .u8)) _ 29 ?hg (N' := 3) ?hd (xs := ([] : List (List Int))) (inner := []) (ok := (fun k_ => (P0_ k_ ∨ w.heap.size ≤ k_))) (okp := (fun k_ => (P0_ k_ ∨ w.heap.size ≤ k_))) ?hr ?hp (fun _ hk => hk) ((show ∀ k_, w.heap.size ≤ k_ → (fun k_ => (P0_ k_ ∨ w.heap.size ≤ k_)) k_ from fun k_ hk => (.inr (Nat.le_trans (below_size (by repeat (first | (with_reducible first | exact HB.out | apply below_alloc | apply pw_below_drewN | apply below_drew1) | exact HB.out))) hk))) _ (Nat.le_refl _)) (Below.refl _ _) (Nat.le_refl _) (by simp) ?_; (case hd => rfl); (case hg => rfl); (case hr => first | (go_simp; done) | (go_simp; rfl)); (case hp => exact (Reps.none _ _)); intro v107 w3 ho4 hb hg_ hnew_; clear hg_ hnew_; (first | rw [← Ny106.out] at ho4 | (simp only [Int.reduceToNat] at ho4; rw [← Ny106.out] at ho4)); have n0_ := Aside0.mk (Kd.V_elder' (by (with_reducible repeat (first | apply Kd.V_alloc | apply Kd.V_drewN | apply Kd.V_drew)); exact HO0.out) (Kd.N_base ho4) hb); have n1_ := Aside0.mk (Kd.N_lower ho4 (below_size (by repeat (first | (with_reducible first | exact HB.out | apply below_alloc | apply pw_below_drewN | apply below_drew1) | exact HB.out)))); have n2_ := Aside0.mk (below_step (by repeat (first | (with_reducible first | exact HB.out | apply below_alloc | apply pw_below_drewN | apply below_drew1) | exact HB.out)) hb); clear HO0; clear HB; have HO0 := n0_; have HO108 := n1_; have HB := n2_; clear n0_ n1_ n2_; clear hb ho4) | ((with_reducible refine gate_builtin (b := .append) (xs := #[.tmp 3, .tmp 4]) rfl ?_); at_builtin; refine Kd.N_append_rows (Kd.slice 5 (Kd.int .u8)) (w0 := w) w.heap.size rfl (.tmp 3) (.tmp 4) 22 29 (.slice none 0 0) 24 rfl Tryd.underlying22 info29 rfl (by decide) (by omega) v107 y106 l0 _ _ _ (fun k_ => (P0_ k_ ∨ w.heap.size ≤ k_)) (fun k_ => ((fun k_ => (P0_ k_ ∨ w.heap.size ≤ k_))) k_ ∧ some k_ ≠ (v107 : Value).ownBlock) rfl rfl ?aO ?aR (fun _ hk => hk) ?aF ?aB ?aS ?aL ?_; (case aR => exact (by skip; exact Kd.V_F (Kd.V_mono (ok' := (fun k_ => ((fun k_ => (P0_ k_ ∨ w.heap.size ≤ k_))) k_ ∧ some k_ ≠ (v107 : Value).ownBlock)) (HO0.out) (fun k_ hk => ⟨hk.1, hk.2⟩)))); (case aB => exact (by repeat (first | (with_reducible first | exact HB.out | apply below_alloc | apply pw_below_drewN | apply below_drew1) | exact HB.out))); (case aF => exact (fun k_ hk => (.inr (Nat.le_trans (below_size (by repeat (first | (with_reducible first | exact HB.out | apply below_alloc | apply pw_below_drewN | apply below_drew1) | exact HB.out))) hk)))); (case aO => exact (by (with_reducible repeat (first | apply Kd.N_alloc | apply Kd.N_drewN | apply Kd.N_drew)); exact HO108.out)); (case aS => exact (below_size (by repeat (first | (with_reducible first | exact HB.out | apply below_alloc | apply pw_below_drewN | apply below_drew1) | exact HB.out)))); (case aL => have := LMc2.out; omega); intro v110 w5 ho hb hg hat; rw [← Ny109.out] at ho; have n0_ := Aside0.mk (Kd.V_afterv (ok := (fun k_ => (P0_ k_ ∨ w.heap.size ≤ k_))) (by (with_reducible repeat (first | apply Kd.V_alloc | apply Kd.V_drewN | apply Kd.V_drew)); exact HO0.out) hg hat); have n1_ := Aside0.mk (hb); have n2_ := Aside0.mk (ho); clear HO0; clear HB; clear HO108; have HO0 := n0_; have HB := n1_; have HO111 := n2_; clear n0_ n1_ n2_; clear ho hb hg hat))
    go_ret
    exact ⟨_, by first | rfl | (simp [errW_none, errW_some] <;> rfl) | (simp [*, errW_none, errW_some] <;> rfl), by (with_reducible repeat (first | apply Kd.N_alloc | apply Kd.N_drewN | apply Kd.N_drew)); exact HO111.out, by repeat (first | (with_reducible first | exact HB.out | apply below_alloc | apply pw_below_drewN | apply below_drew1) | exact HB.out)⟩
  · rw [if_neg c2] at H
    exact absurd H (by simp)

-- NOT PRINTED: function 19 (readers_NewRepeatableReader)

-- NOT PRINTED: function 21 (readers_NewRepeatableReaderSized)

-- NOT PRINTED: function 27 (io_LimitReader)

-- NOT PRINTED: function 20 (readers_NewRepeatableLimitReader)

-- NOT PRINTED: function 26 (impl_readKind)

-- NOT PRINTED: function 28 (readers_CountingReader_BytesRead)

-- NOT PRINTED: function 22 (impl_readSteps)

-- NOT PRINTED: function 10 (impl_ReadRepeatable)

-- NOT PRINTED: function 11 (laws_readAwake)

/-! ### spec_Whole: function 12 -/
def spec_Whole.l0 : Nat → List Int → List (List Int) → Int → Int → Option (List Int)
  | 0, _, _, _, _ => none
  | k + 1, x3, x6, x7, x8 => if x8 < x7 then (if 0 ≤ x8 then (if x8 < (x6.length : Int) then (if x3.length + (rd_L1 x6 x8).length < 140737488355328 then (spec_Whole.l0 k (x3 ++ (rd_L1 x6 x8)) x6 x7 (wrap64 (x8 + 1))) else (none)) else (none)) else (none)) else (some x3)
def spec_Whole.f (k : Nat) (l0 : List (List Int)) : Option (List Int) := spec_Whole.l0 k ([] : List Int) l0 (l0.length : Int) 0
theorem spec_Whole.mono_l : ∀ k, (∀ y0 y1 y2 y3, LeO (spec_Whole.l0 k y0 y1 y2 y3) (spec_Whole.l0 (k + 1) y0 y1 y2 y3))
  | 0 => fun _ _ _ _ r h => by simp [spec_Whole.l0] at h
  | k + 1 => by
    have ih0 := spec_Whole.mono_l k
    · intro y0 y1 y2 y3
      unfold spec_Whole.l0
      repeat' first
      | (with_reducible exact ih0 _ _ _ _)
      | (with_reducible exact LeO.refl _)
      | (with_reducible exact LeO.none _)
      | (with_reducible refine LeO.ite ?_ ?_)
      | (with_reducible refine LeO.bind ?_ (fun _ => ?_))
      | exact ih0 _ _ _ _
      | exact LeO.none _
      | refine LeO.ite ?_ ?_
      | refine LeO.bind ?_ (fun _ => ?_)
theorem spec_Whole.mono : ∀ a0 k, LeO (spec_Whole.f k a0) (spec_Whole.f (k + 1) a0) := by
  intro a0 k
  have ih0 := spec_Whole.mono_l k
  unfold spec_Whole.f
  repeat' first
      | (with_reducible exact ih0 _ _ _ _)
      | (with_reducible exact LeO.refl _)
      | (with_reducible exact LeO.none _)
      | (with_reducible refine LeO.ite ?_ ?_)
      | (with_reducible refine LeO.bind ?_ (fun _ => ?_))
      | exact ih0 _ _ _ _
      | exact LeO.none _
      | refine LeO.ite ?_ ?_
      | refine LeO.bind ?_ (fun _ => ?_)
set_option maxHeartbeats 8000000 in
set_option maxRecDepth 100000 in
theorem spec_Whole.calls (k : Nat) (A0 : Option Addr) (c0 : Nat) (l0 : List (List Int)) (r : List Int) (w : World) (hr0 : Kd.C (Kd.slice 5 (Kd.int .u8)) w A0 l0.length l0) (hc0 : l0.length ≤ c0) (h : spec_Whole.f k l0 = some r) :
    Calls Tryd.prog 12 #[.slice A0 l0.length c0] w fun e w' => ∃ v0_ : Value, e = .returned (v0_) ∧ Kd.R (Kd.int .u8) 5 w' w.heap.size (fun _ => True) v0_ r ∧ Below w.heap.size w w' := by
  have HR0 := Aside0.mk hr0
  have HC0 := Aside0.mk hc0
  clear hr0 hc0
  have HB := Aside0.mk (Below.refl w.heap.size w)
  have H : (spec_Whole.l0 k ([] : List Int) l0 (l0.length : Int) 0) = some r := h
  clear h
  have H' := Aside0.mk H
  clear H
  go_enter Tryd.func12, Tryd.ntmps12
  go_wp2
  go_loopg [3, 8] k (fun kq v3 v8 w' => ∃ (x3_1 : List Int) (x8_1 : Int), v8 = .int .i64 x8_1 ∧ Aside0 (spec_Whole.l0 kq x3_1 l0 (l0.length : Int) x8_1 = some r) ∧ Aside0 (kq ≤ k) ∧ Aside0 (Kd.R (Kd.int .u8) 5 w' w.heap.size (fun _ => True) v3 x3_1) ∧ Aside0 (Below w.heap.size w w'))
  case atStart => exact ⟨(([] : List Int)), (0), (by first | rfl | (simp; done) | (simp [*]; done)), H', ⟨Nat.le_refl _⟩, ⟨by first | exact Kd.R_nil _ _ _ _ _ | exact Kd.N_nil _ _ _ _ _ | exact Kd.V_nil _ _ _ _ _ | exact Kd.Q_nil _ _ _ _ _ | exact Kd.S_nil _ _ _ _ _⟩, ⟨by repeat (first | (with_reducible first | exact HB.out | apply below_alloc | apply pw_below_drewN | apply below_drew1) | exact HB.out)⟩⟩
  case round =>
    clear H'
    try clear c1
    obtain ⟨x3_1, x8_1, rfl, HA, HK1, HO_3, HB⟩ := hrel
    cases gk with
    | zero => exact absurd HA.out (by simp [spec_Whole.l0])
    | succ k1 =>
      have H := HA.out
      clear HA
      simp only [spec_Whole.l0] at H
      by_cases c2 : x8_1 < (l0.length : Int)
      · rw [if_pos c2] at H
        have c2b0 : decide (x8_1 < (l0.length : Int)) = true := decide_eq_true c2
        clear c2
        by_cases c3 : 0 ≤ x8_1
        · rw [if_pos c3] at H
          have c3b0 : decide (0 ≤ x8_1) = true := decide_eq_true c3
          clear c3
          by_cases c4 : x8_1 < (l0.length : Int)
          · rw [if_pos c4] at H
            have c4b0 : decide (x8_1 < (l0.length : Int)) = true := decide_eq_true c4
            clear c4
            by_cases c5 : x3_1.length + (rd_L1 l0 x8_1).length < 140737488355328
            · rw [if_pos c5] at H
              have LMc5 := Aside0.mk c5
              clear c5
              obtain ⟨y127, hy127⟩ : ∃ y_ : List Int, y_ = (x3_1 ++ (rd_L1 l0 x8_1)) := ⟨_, rfl⟩
              replace H : (spec_Whole.l0 k1 y127 l0 (l0.length : Int) (wrap64 (x8_1 + 1))) = some r := by first | (rw [hy127]; with_reducible exact H) | (have H2_ := (Option.bind_some _ _).symm.trans H; rw [hy127]; with_reducible exact H2_) | (have H2_ := (Option.bind_some _ _).symm.trans H; with_reducible exact H2_) | with_reducible exact H | (rw [hy127]; exact H) | exact H
              have Ny127 := Aside0.mk hy127
              clear hy127
              have H' := Aside0.mk H
              clear H
              have p126 : 0 ≤ (x8_1 : Int) := of_decide_eq_true (by first | (with_reducible assumption) | assumption)
              have q126 : x8_1 < (l0.length : Int) := of_decide_eq_true (by first | (with_reducible assumption) | assumption)
              obtain ⟨ad126, A126_0, c126_0, e126, hx126_0, hl126_0, hi126_0⟩ := at_L1 HR0.out x8_1 p126 q126
              cases e126
              replace hx126_0 := (HB.out.cell (World.block_lt_of_cell? w _ hx126_0)).trans hx126_0
              have HR126_0 := Aside0.mk hi126_0
              have HC126_0 := Aside0.mk hl126_0
              clear hi126_0 hl126_0
              replace p126 := eq_true p126
              replace q126 := eq_true q126
              go_wp2_with (first | ((with_reducible refine gate_builtin (b := .append) (xs := #[.tmp 12, .tmp 13]) rfl ?_); at_builtin; refine Kd.R_append_rows (Kd.int .u8) (w0 := w) w.heap.size rfl (.tmp 12) (.tmp 13) 29 5 (.int .u8 0) 1 rfl Tryd.underlying29 info5 rfl (by decide) (by omega) u3 x3_1 (rd_L1 l0 x8_1) _ _ _ (fun _ => True) (fun _ => False) rfl rfl ?aO ?aR (fun _ _ h => h) (fun _ h => h.elim) ?aF ?aB ?aS ?aL ?_; (case aR => repeat (first | exact (Kd.C_below HR126_0.out HB.out) | (with_reducible refine Kd.C_alloc ?_ _) | (with_reducible refine Kd.C_drewN ?_ _) | (with_reducible refine Kd.C_drew ?_))); (case aB => exact (by repeat (first | (with_reducible first | exact HB.out | apply below_alloc | apply pw_below_drewN | apply below_drew1) | exact HB.out))); (case aF => exact (fun _ _ => trivial)); (case aO => exact (by (with_reducible repeat (first | apply Kd.R_alloc | apply Kd.R_drewN | apply Kd.R_drew)); exact HO_3.out)); (case aS => exact (below_size (by repeat (first | (with_reducible first | exact HB.out | apply below_alloc | apply pw_below_drewN | apply below_drew1) | exact HB.out)))); (case aL => have := LMc5.out; omega); intro v128 w6 ho hb hg hat; rw [← Ny127.out] at ho; have n0_ := Aside0.mk (hb); have n1_ := Aside0.mk (ho); clear HB; clear HO_3; have HB := n0_; have HO129 := n1_; clear n0_ n1_; clear ho hb hg hat))
              go_roundg k1
              case measure => have := HK1.out; omega
              case rel => exact ⟨(y127), (wrap64 (x8_1 + 1)), (by first | rfl | (simp; done) | (simp [*]; done)), H', ⟨by have := HK1.out; omega⟩, ⟨by (with_reducible repeat (first | apply Kd.R_alloc | apply Kd.R_drewN | apply Kd.R_drew)); exact HO129.out⟩, ⟨by repeat (first | (with_reducible first | exact HB.out | apply below_alloc | apply pw_below_drewN | apply below_drew1) | exact HB.out)⟩⟩
            · rw [if_neg c5] at H
              exact absurd H (by simp)
          · rw [if_neg c4] at H
            exact absurd H (by simp)
        · rw [if_neg c3] at H
          exact absurd H (by simp)
      · rw [if_neg c2] at H
        have c2b0 : decide (x8_1 < (l0.length : Int)) = false := decide_eq_false c2
        clear c2
        obtain rfl := Option.some.inj H
        go_wp2
        go_ret
        exact ⟨_, by first | rfl | (simp [errW_none, errW_some] <;> rfl) | (simp [*, errW_none, errW_some] <;> rfl), by (with_reducible repeat (first | apply Kd.R_alloc | apply Kd.R_drewN | apply Kd.R_drew)); exact HO_3.out, by repeat (first | (with_reducible first | exact HB.out | apply below_alloc | apply pw_below_drewN | apply below_drew1) | exact HB.out)⟩

-- NOT PRINTED: function 3 (laws_FnReadPlaces)

-- NOT PRINTED: function 23 (readers_NewCountingReader)

-- NOT PRINTED: function 13 (impl_ReadCounting)

-- NOT PRINTED: function 14 (spec_Inner_Read)

-- NOT PRINTED: function 4 (laws_FnReadCounting)

-- NOT PRINTED: function 24 (readers_NewFakeSeeker)

-- NOT PRINTED: function 15 (impl_ReadFake)

-- NOT PRINTED: function 5 (laws_FnReadFake)

-- NOT PRINTED: function 25 (readers_ReadFill)

-- NOT PRINTED: function 16 (impl_ReadFill)

end Go.Proofs.YtgbcmjbiddkldaaDoor.PR
