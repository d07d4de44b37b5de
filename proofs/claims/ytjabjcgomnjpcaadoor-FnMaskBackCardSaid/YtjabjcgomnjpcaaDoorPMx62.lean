-- Written by a program of this session.
import Derived.Test.YtjabjcgomnjpcaaDoorPMx0
import Derived.Test.YtjabjcgomnjpcaaDoorPMx61
namespace Go.Proofs.YtjabjcgomnjpcaaDoor.PM
open Go.RowKit Go.Proofs.YtjabjcgomnjpcaaDoorW.PrintWords Go.Proofs.YtjabjcgomnjpcaaDoorW.PrintLast Go.Proofs.YtjabjcgomnjpcaaDoorW.PrintMore
attribute [local go_sem] max2_int min2_int max_two min_two max_three min_three max_four min_four   -- for this text's walks alone
set_option linter.unusedVariables false
set_option linter.unusedSimpArgs false

/-! ### strconv_underscoreOK: function 52 -/
mutual
def strconv_underscoreOK.j0 : Nat → ByteArray → Int → Int → Bool → Option (Bool)
  | 0, _, _, _, _ => none
  | k + 1, x0, x3, x4, x18 => if x18 = true then (if 1 ≤ (x0.size : Int) then (strconv_underscoreOK.j1 k (x0.extract 1 x0.size) x3 x4) else (none)) else (strconv_underscoreOK.j1 k x0 x3 x4)
def strconv_underscoreOK.j1 : Nat → ByteArray → Int → Int → Option (Bool)
  | 0, _, _, _ => none
  | k + 1, x0, x3, x4 => if (x0.size : Int) ≥ 2 then (if 0 < (x0.size : Int) then (if (bt x0 0) = 48 then (if 1 < (x0.size : Int) then ((strconv_lower.f (bt x0 1)).bind fun t174 => (if t174 = 98 then (strconv_underscoreOK.j2 k x0 x3 x4 false true) else ((strconv_lower.f (bt x0 1)).bind fun t175 => (if t175 = 111 then (strconv_underscoreOK.j2 k x0 x3 x4 false true) else ((strconv_lower.f (bt x0 1)).bind fun t176 => (strconv_underscoreOK.j2 k x0 x3 x4 false (t176 == 120))))))) else (none)) else (strconv_underscoreOK.j2 k x0 x3 x4 false false)) else (none)) else (strconv_underscoreOK.j2 k x0 x3 x4 false false)
def strconv_underscoreOK.j2 : Nat → ByteArray → Int → Int → Bool → Bool → Option (Bool)
  | 0, _, _, _, _, _ => none
  | k + 1, x0, x3, x4, x5, x46 => if x46 = true then (if 1 < (x0.size : Int) then ((strconv_lower.f (bt x0 1)).bind fun t177 => (strconv_underscoreOK.j3 k x0 48 2 (t177 == 120))) else (none)) else (strconv_underscoreOK.j3 k x0 x3 x4 x5)
def strconv_underscoreOK.j3 : Nat → ByteArray → Int → Int → Bool → Option (Bool)
  | 0, _, _, _, _ => none
  | k + 1, x0, x3, x4, x5 => strconv_underscoreOK.l0 k x0 x3 x4 x5
def strconv_underscoreOK.l0 : Nat → ByteArray → Int → Int → Bool → Option (Bool)
  | 0, _, _, _, _ => none
  | k + 1, x0, x3, x4, x5 => if x4 < (x0.size : Int) then (if 0 ≤ x4 then (if 48 ≤ (bt x0 x4) then (if (bt x0 x4) ≤ 57 then (strconv_underscoreOK.j5 k x0 x3 x4 x5 true) else (if x5 = true then ((strconv_lower.f (bt x0 x4)).bind fun t178 => (if 97 ≤ t178 then ((strconv_lower.f (bt x0 x4)).bind fun t179 => (strconv_underscoreOK.j5 k x0 x3 x4 x5 (decide (t179 ≤ 102)))) else (strconv_underscoreOK.j5 k x0 x3 x4 x5 false))) else (strconv_underscoreOK.j5 k x0 x3 x4 x5 false))) else (if x5 = true then ((strconv_lower.f (bt x0 x4)).bind fun t180 => (if 97 ≤ t180 then ((strconv_lower.f (bt x0 x4)).bind fun t181 => (strconv_underscoreOK.j5 k x0 x3 x4 x5 (decide (t181 ≤ 102)))) else (strconv_underscoreOK.j5 k x0 x3 x4 x5 false))) else (strconv_underscoreOK.j5 k x0 x3 x4 x5 false))) else (none)) else (some (x3 != 95))
def strconv_underscoreOK.j5 : Nat → ByteArray → Int → Int → Bool → Bool → Option (Bool)
  | 0, _, _, _, _, _ => none
  | k + 1, x0, x3, x4, x5, x83 => if x83 = true then (strconv_underscoreOK.l0 k x0 48 (wrap64 (x4 + 1)) x5) else (if 0 ≤ x4 then (if x4 < (x0.size : Int) then (if (bt x0 x4) = 95 then (if x3 = 48 then (strconv_underscoreOK.l0 k x0 95 (wrap64 (x4 + 1)) x5) else (some false)) else (if x3 = 95 then (some false) else (strconv_underscoreOK.l0 k x0 33 (wrap64 (x4 + 1)) x5))) else (none)) else (none))
end
def strconv_underscoreOK.f (k : Nat) (a0 : ByteArray) : Option (Bool) := if (a0.size : Int) ≥ 1 then (if 0 < (a0.size : Int) then (if (bt a0 0) = 45 then (strconv_underscoreOK.j0 k a0 94 0 true) else (strconv_underscoreOK.j0 k a0 94 0 ((bt a0 0) == 43))) else (none)) else (strconv_underscoreOK.j0 k a0 94 0 false)
theorem strconv_underscoreOK.mono_l : ∀ k, (∀ y0 y1 y2 y3, LeO (strconv_underscoreOK.j0 k y0 y1 y2 y3) (strconv_underscoreOK.j0 (k + 1) y0 y1 y2 y3)) ∧ (∀ y0 y1 y2, LeO (strconv_underscoreOK.j1 k y0 y1 y2) (strconv_underscoreOK.j1 (k + 1) y0 y1 y2)) ∧ (∀ y0 y1 y2 y3 y4, LeO (strconv_underscoreOK.j2 k y0 y1 y2 y3 y4) (strconv_underscoreOK.j2 (k + 1) y0 y1 y2 y3 y4)) ∧ (∀ y0 y1 y2 y3, LeO (strconv_underscoreOK.j3 k y0 y1 y2 y3) (strconv_underscoreOK.j3 (k + 1) y0 y1 y2 y3)) ∧ (∀ y0 y1 y2 y3, LeO (strconv_underscoreOK.l0 k y0 y1 y2 y3) (strconv_underscoreOK.l0 (k + 1) y0 y1 y2 y3)) ∧ (∀ y0 y1 y2 y3 y4, LeO (strconv_underscoreOK.j5 k y0 y1 y2 y3 y4) (strconv_underscoreOK.j5 (k + 1) y0 y1 y2 y3 y4))
  | 0 => ⟨fun _ _ _ _ r h => by simp [strconv_underscoreOK.j0] at h, fun _ _ _ r h => by simp [strconv_underscoreOK.j1] at h, fun _ _ _ _ _ r h => by simp [strconv_underscoreOK.j2] at h, fun _ _ _ _ r h => by simp [strconv_underscoreOK.j3] at h, fun _ _ _ _ r h => by simp [strconv_underscoreOK.l0] at h, fun _ _ _ _ _ r h => by simp [strconv_underscoreOK.j5] at h⟩
  | k + 1 => by
    obtain ⟨ih0, ih1, ih2, ih3, ih4, ih5⟩ := strconv_underscoreOK.mono_l k
    refine ⟨?_, ?_, ?_, ?_, ?_, ?_⟩
    · intro y0 y1 y2 y3
      unfold strconv_underscoreOK.j0
      repeat' first
      | (with_reducible exact ih0 _ _ _ _)
      | (with_reducible exact ih1 _ _ _)
      | (with_reducible exact ih2 _ _ _ _ _)
      | (with_reducible exact ih3 _ _ _ _)
      | (with_reducible exact ih4 _ _ _ _)
      | (with_reducible exact ih5 _ _ _ _ _)
      | (with_reducible exact LeO.refl _)
      | (with_reducible exact LeO.none _)
      | (with_reducible refine LeO.ite ?_ ?_)
      | (with_reducible refine LeO.bind ?_ (fun _ => ?_))
      | exact ih0 _ _ _ _
      | exact ih1 _ _ _
      | exact ih2 _ _ _ _ _
      | exact ih3 _ _ _ _
      | exact ih4 _ _ _ _
      | exact ih5 _ _ _ _ _
      | exact LeO.none _
      | refine LeO.ite ?_ ?_
      | refine LeO.bind ?_ (fun _ => ?_)
    · intro y0 y1 y2
      unfold strconv_underscoreOK.j1
      repeat' first
      | (with_reducible exact ih0 _ _ _ _)
      | (with_reducible exact ih1 _ _ _)
      | (with_reducible exact ih2 _ _ _ _ _)
      | (with_reducible exact ih3 _ _ _ _)
      | (with_reducible exact ih4 _ _ _ _)
      | (with_reducible exact ih5 _ _ _ _ _)
      | (with_reducible exact LeO.refl _)
      | (with_reducible exact LeO.none _)
      | (with_reducible refine LeO.ite ?_ ?_)
      | (with_reducible refine LeO.bind ?_ (fun _ => ?_))
      | exact ih0 _ _ _ _
      | exact ih1 _ _ _
      | exact ih2 _ _ _ _ _
      | exact ih3 _ _ _ _
      | exact ih4 _ _ _ _
      | exact ih5 _ _ _ _ _
      | exact LeO.none _
      | refine LeO.ite ?_ ?_
      | refine LeO.bind ?_ (fun _ => ?_)
    · intro y0 y1 y2 y3 y4
      unfold strconv_underscoreOK.j2
      repeat' first
      | (with_reducible exact ih0 _ _ _ _)
      | (with_reducible exact ih1 _ _ _)
      | (with_reducible exact ih2 _ _ _ _ _)
      | (with_reducible exact ih3 _ _ _ _)
      | (with_reducible exact ih4 _ _ _ _)
      | (with_reducible exact ih5 _ _ _ _ _)
      | (with_reducible exact LeO.refl _)
      | (with_reducible exact LeO.none _)
      | (with_reducible refine LeO.ite ?_ ?_)
      | (with_reducible refine LeO.bind ?_ (fun _ => ?_))
      | exact ih0 _ _ _ _
      | exact ih1 _ _ _
      | exact ih2 _ _ _ _ _
      | exact ih3 _ _ _ _
      | exact ih4 _ _ _ _
      | exact ih5 _ _ _ _ _
      | exact LeO.none _
      | refine LeO.ite ?_ ?_
      | refine LeO.bind ?_ (fun _ => ?_)
    · intro y0 y1 y2 y3
      unfold strconv_underscoreOK.j3
      repeat' first
      | (with_reducible exact ih0 _ _ _ _)
      | (with_reducible exact ih1 _ _ _)
      | (with_reducible exact ih2 _ _ _ _ _)
      | (with_reducible exact ih3 _ _ _ _)
      | (with_reducible exact ih4 _ _ _ _)
      | (with_reducible exact ih5 _ _ _ _ _)
      | (with_reducible exact LeO.refl _)
      | (with_reducible exact LeO.none _)
      | (with_reducible refine LeO.ite ?_ ?_)
      | (with_reducible refine LeO.bind ?_ (fun _ => ?_))
      | exact ih0 _ _ _ _
      | exact ih1 _ _ _
      | exact ih2 _ _ _ _ _
      | exact ih3 _ _ _ _
      | exact ih4 _ _ _ _
      | exact ih5 _ _ _ _ _
      | exact LeO.none _
      | refine LeO.ite ?_ ?_
      | refine LeO.bind ?_ (fun _ => ?_)
    · intro y0 y1 y2 y3
      unfold strconv_underscoreOK.l0
      repeat' first
      | (with_reducible exact ih0 _ _ _ _)
      | (with_reducible exact ih1 _ _ _)
      | (with_reducible exact ih2 _ _ _ _ _)
      | (with_reducible exact ih3 _ _ _ _)
      | (with_reducible exact ih4 _ _ _ _)
      | (with_reducible exact ih5 _ _ _ _ _)
      | (with_reducible exact LeO.refl _)
      | (with_reducible exact LeO.none _)
      | (with_reducible refine LeO.ite ?_ ?_)
      | (with_reducible refine LeO.bind ?_ (fun _ => ?_))
      | exact ih0 _ _ _ _
      | exact ih1 _ _ _
      | exact ih2 _ _ _ _ _
      | exact ih3 _ _ _ _
      | exact ih4 _ _ _ _
      | exact ih5 _ _ _ _ _
      | exact LeO.none _
      | refine LeO.ite ?_ ?_
      | refine LeO.bind ?_ (fun _ => ?_)
    · intro y0 y1 y2 y3 y4
      unfold strconv_underscoreOK.j5
      repeat' first
      | (with_reducible exact ih0 _ _ _ _)
      | (with_reducible exact ih1 _ _ _)
      | (with_reducible exact ih2 _ _ _ _ _)
      | (with_reducible exact ih3 _ _ _ _)
      | (with_reducible exact ih4 _ _ _ _)
      | (with_reducible exact ih5 _ _ _ _ _)
      | (with_reducible exact LeO.refl _)
      | (with_reducible exact LeO.none _)
      | (with_reducible refine LeO.ite ?_ ?_)
      | (with_reducible refine LeO.bind ?_ (fun _ => ?_))
      | exact ih0 _ _ _ _
      | exact ih1 _ _ _
      | exact ih2 _ _ _ _ _
      | exact ih3 _ _ _ _
      | exact ih4 _ _ _ _
      | exact ih5 _ _ _ _ _
      | exact LeO.none _
      | refine LeO.ite ?_ ?_
      | refine LeO.bind ?_ (fun _ => ?_)
theorem strconv_underscoreOK.mono : ∀ a0 k, LeO (strconv_underscoreOK.f k a0) (strconv_underscoreOK.f (k + 1) a0) := by
  intro a0 k
  obtain ⟨ih0, ih1, ih2, ih3, ih4, ih5⟩ := strconv_underscoreOK.mono_l k
  unfold strconv_underscoreOK.f
  repeat' first
      | (with_reducible exact ih0 _ _ _ _)
      | (with_reducible exact ih1 _ _ _)
      | (with_reducible exact ih2 _ _ _ _ _)
      | (with_reducible exact ih3 _ _ _ _)
      | (with_reducible exact ih4 _ _ _ _)
      | (with_reducible exact ih5 _ _ _ _ _)
      | (with_reducible exact LeO.refl _)
      | (with_reducible exact LeO.none _)
      | (with_reducible refine LeO.ite ?_ ?_)
      | (with_reducible refine LeO.bind ?_ (fun _ => ?_))
      | exact ih0 _ _ _ _
      | exact ih1 _ _ _
      | exact ih2 _ _ _ _ _
      | exact ih3 _ _ _ _
      | exact ih4 _ _ _ _
      | exact ih5 _ _ _ _ _
      | exact LeO.none _
      | refine LeO.ite ?_ ?_
      | refine LeO.bind ?_ (fun _ => ?_)
set_option maxHeartbeats 8000000 in
set_option maxRecDepth 100000 in
theorem strconv_underscoreOK.calls (k : Nat) (a0 : ByteArray) (r : Bool) (w : World) (h : strconv_underscoreOK.f k a0 = some r) :
    Calls Tryd.prog 52 #[.string a0] w fun e w' => e = .returned (.bool r) ∧ Drawn0 w w' := by
  have H : (if (a0.size : Int) ≥ 1 then (if 0 < (a0.size : Int) then (if (bt a0 0) = 45 then (strconv_underscoreOK.j0 k a0 94 0 true) else (strconv_underscoreOK.j0 k a0 94 0 ((bt a0 0) == 43))) else (none)) else (strconv_underscoreOK.j0 k a0 94 0 false)) = some r := h
  clear h
  have HC2 := Aside0.mk H
  clear H
  go_enter Tryd.func52, Tryd.ntmps52
  go_upto_region 3 with (fail)
  go_cut [18] (fun v18 wc => ∃ (kq : Nat) (x18_1 : Bool), v18 = .bool x18_1 ∧ Aside0 (strconv_underscoreOK.j0 kq a0 94 0 x18_1 = some r) ∧ Aside0 (kq ≤ k) ∧ Drawn0 w wc)
  case first =>
    have H := HC2.out
    clear HC2
    by_cases c3 : (a0.size : Int) ≥ 1
    · rw [if_pos c3] at H
      have c3b0 : decide (1 ≤ (a0.size : Int)) = true := decide_eq_true c3
      have c3b1 : decide (1 ≤ a0.size) = true := decide_eq_true (by omega)
      clear c3
      (first | rw [c3b0] | (simp only [i64_w, i32_w]; rw [c3b0]) | skip)
      by_cases c4 : 0 < (a0.size : Int)
      · rw [if_pos c4] at H
        have c4b0 : decide (0 < (a0.size : Int)) = true := decide_eq_true c4
        have c4b1 : decide (0 < a0.size) = true := decide_eq_true (by omega)
        clear c4
        by_cases c6 : (bt a0 0) = 45
        · rw [if_pos c6] at H
          have c6b0 : ((bt a0 0) == 45) = true := beq_iff_eq.mpr c6
          have c6b1 : ((bt a0 0) != 45) = false := bne_eq_false_iff_eq.mpr c6
          clear c6
          have H' := Aside0.mk H
          clear H
          have p5 : 0 ≤ (0 : Int) := (by omega)
          have q5 : 0 < a0.size := (by have : (0 : Int) < (a0.size : Int) := of_decide_eq_true (by first | (with_reducible assumption) | assumption); omega)
          have hx5 : ∀ h : 0 < a0.size, ((a0[0]'h).toNat : Int) = bt a0 0 := bt_at a0 0
          clear p5
          have qi5 : (0 < (a0.size : Int)) = True := eq_true (of_decide_eq_true (by first | (with_reducible assumption) | assumption))
          replace q5 := eq_true q5
          go_wp2
          go_meet
          case rel => exact ⟨_, (true), (by first | rfl | (simp; done) | (simp [*]; done)), H', ⟨by first | omega | exact Nat.le_refl _⟩, by repeat (first | exact Drawn0.refl _ | apply Drawn0.step)⟩
        · rw [if_neg c6] at H
          have c6b0 : ((bt a0 0) == 45) = false := beq_eq_false_iff_ne.mpr c6
          have c6b1 : ((bt a0 0) != 45) = true := bne_iff_ne.mpr c6
          have H' := Aside0.mk H
          clear H
          have p5 : 0 ≤ (0 : Int) := (by omega)
          have q5 : 0 < a0.size := (by have : (0 : Int) < (a0.size : Int) := of_decide_eq_true (by first | (with_reducible assumption) | assumption); omega)
          have hx5 : ∀ h : 0 < a0.size, ((a0[0]'h).toNat : Int) = bt a0 0 := bt_at a0 0
          clear p5
          have qi5 : (0 < (a0.size : Int)) = True := eq_true (of_decide_eq_true (by first | (with_reducible assumption) | assumption))
          replace q5 := eq_true q5
          have p7 : 0 ≤ (0 : Int) := (by omega)
          have q7 : 0 < a0.size := (by have : (0 : Int) < (a0.size : Int) := of_decide_eq_true (by first | (with_reducible assumption) | assumption); omega)
          have hx7 : ∀ h : 0 < a0.size, ((a0[0]'h).toNat : Int) = bt a0 0 := bt_at a0 0
          clear p7
          have qi7 : (0 < (a0.size : Int)) = True := eq_true (of_decide_eq_true (by first | (with_reducible assumption) | assumption))
          replace q7 := eq_true q7
          go_wp2
          go_meet
          case rel => exact ⟨_, (((bt a0 0) == 43)), (by first | rfl | (simp; done) | (simp [*]; done)), H', ⟨by first | omega | exact Nat.le_refl _⟩, by repeat (first | exact Drawn0.refl _ | apply Drawn0.step)⟩
      · rw [if_neg c4] at H
        exact absurd H (by simp)
    · rw [if_neg c3] at H
      have c3b0 : decide (1 ≤ (a0.size : Int)) = false := decide_eq_false c3
      have c3b1 : decide (1 ≤ a0.size) = false := decide_eq_false (by omega)
      clear c3
      (first | rw [c3b0] | (simp only [i64_w, i32_w]; rw [c3b0]) | skip)
      have H' := Aside0.mk H
      clear H
      go_wp2
      go_meet
      case rel => exact ⟨_, (false), (by first | rfl | (simp; done) | (simp [*]; done)), H', ⟨by first | omega | exact Nat.le_refl _⟩, by repeat (first | exact Drawn0.refl _ | apply Drawn0.step)⟩
  case rest =>
    clear HC2
    try clear p2
    try clear c3
    try clear c3b0
    try clear c3b1
    try clear c4
    try clear c4b0
    try clear c4b1
    try clear c5
    try clear p5
    try clear q5
    try clear hx5
    try clear qi5
    try clear c6
    try clear c6b0
    try clear c6b1
    try clear p7
    try clear q7
    try clear hx7
    try clear qi7
    try clear p5
    try clear p7
    try clear q5
    try clear q7
    obtain ⟨kq, x18_1, rfl, HA, HJ1, ⟨mc1, rfl⟩⟩ := hcut
    cases kq with
    | zero => exact absurd HA.out (by simp [strconv_underscoreOK.j0])
    | succ kj1 =>
      have H := HA.out
      clear HA
      simp only [strconv_underscoreOK.j0] at H
      have HC8 := Aside0.mk H
      clear H
      go_upto_if 18 with (fail)
      go_cut [0] (fun v0 wc => ∃ (kq : Nat) (x0_7 : ByteArray), v0 = .string x0_7 ∧ Aside0 (strconv_underscoreOK.j1 kq x0_7 94 0 = some r) ∧ Aside0 (kq ≤ kj1) ∧ Drawn0 w wc)
      case first =>
        have H := HC8.out
        clear HC8
        by_cases c9 : x18_1 = true
        · subst c9
          have H1 : (if 1 ≤ (a0.size : Int) then (strconv_underscoreOK.j1 kj1 (a0.extract 1 a0.size) 94 0) else (none)) = some r := by rw [if_pos rfl] at H; exact H
          clear H
          have H := H1
          clear H1
          by_cases c10 : 1 ≤ (a0.size : Int)
          · rw [if_pos c10] at H
            have c10b0 := eq_true c10
            have c10b1 : decide (1 ≤ (a0.size : Int)) = true := decide_eq_true c10
            clear c10
            have H' := Aside0.mk H
            clear H
            go_wp2
            go_meet
            case rel => exact ⟨_, (a0.extract 1 a0.size), (by first | rfl | (simp; done) | (simp [*]; done)), H', ⟨by have := HJ1.out; first | omega | exact Nat.le_refl _⟩, by repeat (first | exact Drawn0.refl _ | apply Drawn0.step)⟩
          · rw [if_neg c10] at H
            exact absurd H (by simp)
        · replace c9 := Bool.eq_false_iff.mpr c9
          subst c9
          have H1 : (strconv_underscoreOK.j1 kj1 a0 94 0) = some r := by rw [if_neg (show ¬ (false = true) by decide)] at H; exact H
          clear H
          have H := H1
          clear H1
          have H' := Aside0.mk H
          clear H
          go_wp2
          go_meet
          case rel => exact ⟨_, (a0), (by first | rfl | (simp; done) | (simp [*]; done)), H', ⟨by have := HJ1.out; first | omega | exact Nat.le_refl _⟩, by repeat (first | exact Drawn0.refl _ | apply Drawn0.step)⟩
      case rest =>
        clear HC8
        try clear c1
        try clear p2
        try clear c3
        try clear c3b0
        try clear c3b1
        try clear c4
        try clear c4b0
        try clear c4b1
        try clear c5
        try clear p5
        try clear q5
        try clear hx5
        try clear qi5
        try clear c6
        try clear c6b0
        try clear c6b1
        try clear p7
        try clear q7
        try clear hx7
        try clear qi7
        try clear c9
        try clear c10
        try clear c10b0
        try clear c10b1
        try clear p2
        try clear p5
        try clear p7
        try clear q5
        try clear q7
        obtain ⟨kq, x0_7, rfl, HA, HJ7, ⟨mc7, rfl⟩⟩ := hcut
        cases kq with
        | zero => exact absurd HA.out (by simp [strconv_underscoreOK.j1])
        | succ kj7 =>
          have H := HA.out
          clear HA
          simp only [strconv_underscoreOK.j1] at H
          have HC11 := Aside0.mk H
          clear H
          go_upto_region 6 with (fail)
          go_cut [46] (fun v46 wc => ∃ (kq : Nat) (x46_10 : Bool), v46 = .bool x46_10 ∧ Aside0 (strconv_underscoreOK.j2 kq x0_7 94 0 false x46_10 = some r) ∧ Aside0 (kq ≤ kj7) ∧ Drawn0 w wc)
          case first =>
            have H := HC11.out
            clear HC11
            by_cases c12 : (x0_7.size : Int) ≥ 2
            · rw [if_pos c12] at H
              have c12b0 : decide (2 ≤ (x0_7.size : Int)) = true := decide_eq_true c12
              have c12b1 : decide (2 ≤ x0_7.size) = true := decide_eq_true (by omega)
              clear c12
              (first | rw [c12b0] | (simp only [i64_w, i32_w]; rw [c12b0]) | skip)
              by_cases c13 : 0 < (x0_7.size : Int)
              · rw [if_pos c13] at H
                have c13b0 : decide (0 < (x0_7.size : Int)) = true := decide_eq_true c13
                have c13b1 : decide (0 < x0_7.size) = true := decide_eq_true (by omega)
                clear c13
                by_cases c15 : (bt x0_7 0) = 48
                · rw [if_pos c15] at H
                  have c15b0 : ((bt x0_7 0) == 48) = true := beq_iff_eq.mpr c15
                  have c15b1 : ((bt x0_7 0) != 48) = false := bne_eq_false_iff_eq.mpr c15
                  clear c15
                  by_cases c16 : 1 < (x0_7.size : Int)
                  · rw [if_pos c16] at H
                    have c16b0 : decide (1 < (x0_7.size : Int)) = true := decide_eq_true c16
                    have c16b1 : decide (1 < x0_7.size) = true := decide_eq_true (by omega)
                    clear c16
                    replace H := Option.bind_eq_some_iff.mp H
                    obtain ⟨t174, A180, H⟩ := H
                    replace H : (if t174 = 98 then (strconv_underscoreOK.j2 kj7 x0_7 94 0 false true) else ((strconv_lower.f (bt x0_7 1)).bind fun t175 => (if t175 = 111 then (strconv_underscoreOK.j2 kj7 x0_7 94 0 false true) else ((strconv_lower.f (bt x0_7 1)).bind fun t176 => (strconv_underscoreOK.j2 kj7 x0_7 94 0 false (t176 == 120)))))) = some r := H
                    have A18 := Aside0.mk A180
                    clear A180
                    by_cases c19 : t174 = 98
                    · rw [if_pos c19] at H
                      have c19b0 : (t174 == 98) = true := beq_iff_eq.mpr c19
                      have c19b1 : (t174 != 98) = false := bne_eq_false_iff_eq.mpr c19
                      clear c19
                      have H' := Aside0.mk H
                      clear H
                      have p14 : 0 ≤ (0 : Int) := (by omega)
                      have q14 : 0 < x0_7.size := (by have : (0 : Int) < (x0_7.size : Int) := of_decide_eq_true (by first | (with_reducible assumption) | assumption); omega)
                      have hx14 : ∀ h : 0 < x0_7.size, ((x0_7[0]'h).toNat : Int) = bt x0_7 0 := bt_at x0_7 0
                      clear p14
                      have qi14 : (0 < (x0_7.size : Int)) = True := eq_true (of_decide_eq_true (by first | (with_reducible assumption) | assumption))
                      replace q14 := eq_true q14
                      have p17 : 0 ≤ (1 : Int) := (by omega)
                      have q17 : 1 < x0_7.size := (by have : (1 : Int) < (x0_7.size : Int) := of_decide_eq_true (by first | (with_reducible assumption) | assumption); omega)
                      have hx17 : ∀ h : 1 < x0_7.size, ((x0_7[1]'h).toNat : Int) = bt x0_7 1 := bt_at x0_7 1
                      clear p17
                      have qi17 : (1 < (x0_7.size : Int)) = True := eq_true (of_decide_eq_true (by first | (with_reducible assumption) | assumption))
                      replace q17 := eq_true q17
                      go_wp2_with (first | (go_at_call 51; (with_reducible refine (strconv_lower.calls (bt x0_7 1) t174 _ A18.out).mono ?_); rintro e w' ⟨rfl, ⟨nd, rfl⟩⟩))
                      go_meet
                      case rel => exact ⟨_, (true), (by first | rfl | (simp; done) | (simp [*]; done)), H', ⟨by have := HJ1.out; have := HJ7.out; first | omega | exact Nat.le_refl _⟩, by repeat (first | exact Drawn0.refl _ | apply Drawn0.step)⟩
                    · rw [if_neg c19] at H
                      have c19b0 : (t174 == 98) = false := beq_eq_false_iff_ne.mpr c19
                      have c19b1 : (t174 != 98) = true := bne_iff_ne.mpr c19
                      replace H := Option.bind_eq_some_iff.mp H
                      obtain ⟨t175x, A210, H⟩ := H
                      obtain rfl : t174 = t175x := Option.some.inj (A18.out.symm.trans A210)
                      replace H : (if t174 = 111 then (strconv_underscoreOK.j2 kj7 x0_7 94 0 false true) else ((strconv_lower.f (bt x0_7 1)).bind fun t176 => (strconv_underscoreOK.j2 kj7 x0_7 94 0 false (t176 == 120)))) = some r := H
                      have A21 := Aside0.mk A210
                      clear A210
                      by_cases c22 : t174 = 111
                      · rw [if_pos c22] at H
                        have c22b0 : (t174 == 111) = true := beq_iff_eq.mpr c22
                        have c22b1 : (t174 != 111) = false := bne_eq_false_iff_eq.mpr c22
                        clear c22
                        have H' := Aside0.mk H
                        clear H
                        have p14 : 0 ≤ (0 : Int) := (by omega)
                        have q14 : 0 < x0_7.size := (by have : (0 : Int) < (x0_7.size : Int) := of_decide_eq_true (by first | (with_reducible assumption) | assumption); omega)
                        have hx14 : ∀ h : 0 < x0_7.size, ((x0_7[0]'h).toNat : Int) = bt x0_7 0 := bt_at x0_7 0
                        clear p14
                        have qi14 : (0 < (x0_7.size : Int)) = True := eq_true (of_decide_eq_true (by first | (with_reducible assumption) | assumption))
                        replace q14 := eq_true q14
                        have p17 : 0 ≤ (1 : Int) := (by omega)
                        have q17 : 1 < x0_7.size := (by have : (1 : Int) < (x0_7.size : Int) := of_decide_eq_true (by first | (with_reducible assumption) | assumption); omega)
                        have hx17 : ∀ h : 1 < x0_7.size, ((x0_7[1]'h).toNat : Int) = bt x0_7 1 := bt_at x0_7 1
                        clear p17
                        have qi17 : (1 < (x0_7.size : Int)) = True := eq_true (of_decide_eq_true (by first | (with_reducible assumption) | assumption))
                        replace q17 := eq_true q17
                        go_wp2_with (first | (go_at_call 51; (with_reducible refine (strconv_lower.calls (bt x0_7 1) t174 _ A18.out).mono ?_); rintro e w' ⟨rfl, ⟨nd, rfl⟩⟩; have p20 : 0 ≤ (1 : Int) := (by omega); have q20 : 1 < x0_7.size := (by have : (1 : Int) < (x0_7.size : Int) := of_decide_eq_true (by first | (with_reducible assumption) | assumption); omega); have hx20 : ∀ h : 1 < x0_7.size, ((x0_7[1]'h).toNat : Int) = bt x0_7 1 := bt_at x0_7 1; clear p20; have qi20 : (1 < (x0_7.size : Int)) = True := eq_true (of_decide_eq_true (by first | (with_reducible assumption) | assumption)); replace q20 := eq_true q20) | (go_at_call 51; (with_reducible refine (strconv_lower.calls (bt x0_7 1) t174 _ A21.out).mono ?_); rintro e w' ⟨rfl, ⟨nd, rfl⟩⟩))
                        go_meet
                        case rel => exact ⟨_, (true), (by first | rfl | (simp; done) | (simp [*]; done)), H', ⟨by have := HJ1.out; have := HJ7.out; first | omega | exact Nat.le_refl _⟩, by repeat (first | exact Drawn0.refl _ | apply Drawn0.step)⟩
                      · rw [if_neg c22] at H
                        have c22b0 : (t174 == 111) = false := beq_eq_false_iff_ne.mpr c22
                        have c22b1 : (t174 != 111) = true := bne_iff_ne.mpr c22
                        replace H := Option.bind_eq_some_iff.mp H
                        obtain ⟨t176x, A240, H⟩ := H
                        obtain rfl : t174 = t176x := Option.some.inj (A18.out.symm.trans A240)
                        replace H : (strconv_underscoreOK.j2 kj7 x0_7 94 0 false (t174 == 120)) = some r := H
                        have A24 := Aside0.mk A240
                        clear A240
                        have H' := Aside0.mk H
                        clear H
                        have p14 : 0 ≤ (0 : Int) := (by omega)
                        have q14 : 0 < x0_7.size := (by have : (0 : Int) < (x0_7.size : Int) := of_decide_eq_true (by first | (with_reducible assumption) | assumption); omega)
                        have hx14 : ∀ h : 0 < x0_7.size, ((x0_7[0]'h).toNat : Int) = bt x0_7 0 := bt_at x0_7 0
                        clear p14
                        have qi14 : (0 < (x0_7.size : Int)) = True := eq_true (of_decide_eq_true (by first | (with_reducible assumption) | assumption))
                        replace q14 := eq_true q14
                        have p17 : 0 ≤ (1 : Int) := (by omega)
                        have q17 : 1 < x0_7.size := (by have : (1 : Int) < (x0_7.size : Int) := of_decide_eq_true (by first | (with_reducible assumption) | assumption); omega)
                        have hx17 : ∀ h : 1 < x0_7.size, ((x0_7[1]'h).toNat : Int) = bt x0_7 1 := bt_at x0_7 1
                        clear p17
                        have qi17 : (1 < (x0_7.size : Int)) = True := eq_true (of_decide_eq_true (by first | (with_reducible assumption) | assumption))
                        replace q17 := eq_true q17
                        go_wp2_with (first | (go_at_call 51; (with_reducible refine (strconv_lower.calls (bt x0_7 1) t174 _ A18.out).mono ?_); rintro e w' ⟨rfl, ⟨nd, rfl⟩⟩; have p20 : 0 ≤ (1 : Int) := (by omega); have q20 : 1 < x0_7.size := (by have : (1 : Int) < (x0_7.size : Int) := of_decide_eq_true (by first | (with_reducible assumption) | assumption); omega); have hx20 : ∀ h : 1 < x0_7.size, ((x0_7[1]'h).toNat : Int) = bt x0_7 1 := bt_at x0_7 1; clear p20; have qi20 : (1 < (x0_7.size : Int)) = True := eq_true (of_decide_eq_true (by first | (with_reducible assumption) | assumption)); replace q20 := eq_true q20) | (go_at_call 51; (with_reducible refine (strconv_lower.calls (bt x0_7 1) t174 _ A21.out).mono ?_); rintro e w' ⟨rfl, ⟨nd, rfl⟩⟩; have p23 : 0 ≤ (1 : Int) := (by omega); have q23 : 1 < x0_7.size := (by have : (1 : Int) < (x0_7.size : Int) := of_decide_eq_true (by first | (with_reducible assumption) | assumption); omega); have hx23 : ∀ h : 1 < x0_7.size, ((x0_7[1]'h).toNat : Int) = bt x0_7 1 := bt_at x0_7 1; clear p23; have qi23 : (1 < (x0_7.size : Int)) = True := eq_true (of_decide_eq_true (by first | (with_reducible assumption) | assumption)); replace q23 := eq_true q23) | (go_at_call 51; (with_reducible refine (strconv_lower.calls (bt x0_7 1) t174 _ A24.out).mono ?_); rintro e w' ⟨rfl, ⟨nd, rfl⟩⟩))
                        go_meet
                        case rel => exact ⟨_, ((t174 == 120)), (by first | rfl | (simp; done) | (simp [*]; done)), H', ⟨by have := HJ1.out; have := HJ7.out; first | omega | exact Nat.le_refl _⟩, by repeat (first | exact Drawn0.refl _ | apply Drawn0.step)⟩
                  · rw [if_neg c16] at H
                    exact absurd H (by simp)
                · rw [if_neg c15] at H
                  have c15b0 : ((bt x0_7 0) == 48) = false := beq_eq_false_iff_ne.mpr c15
                  have c15b1 : ((bt x0_7 0) != 48) = true := bne_iff_ne.mpr c15
                  have H' := Aside0.mk H
                  clear H
                  have p14 : 0 ≤ (0 : Int) := (by omega)
                  have q14 : 0 < x0_7.size := (by have : (0 : Int) < (x0_7.size : Int) := of_decide_eq_true (by first | (with_reducible assumption) | assumption); omega)
                  have hx14 : ∀ h : 0 < x0_7.size, ((x0_7[0]'h).toNat : Int) = bt x0_7 0 := bt_at x0_7 0
                  clear p14
                  have qi14 : (0 < (x0_7.size : Int)) = True := eq_true (of_decide_eq_true (by first | (with_reducible assumption) | assumption))
                  replace q14 := eq_true q14
                  go_wp2
                  go_meet
                  case rel => exact ⟨_, (false), (by first | rfl | (simp; done) | (simp [*]; done)), H', ⟨by have := HJ1.out; have := HJ7.out; first | omega | exact Nat.le_refl _⟩, by repeat (first | exact Drawn0.refl _ | apply Drawn0.step)⟩
              · rw [if_neg c13] at H
                exact absurd H (by simp)
            · rw [if_neg c12] at H
              have c12b0 : decide (2 ≤ (x0_7.size : Int)) = false := decide_eq_false c12
              have c12b1 : decide (2 ≤ x0_7.size) = false := decide_eq_false (by omega)
              clear c12
              (first | rw [c12b0] | (simp only [i64_w, i32_w]; rw [c12b0]) | skip)
              have H' := Aside0.mk H
              clear H
              go_wp2
              go_meet
              case rel => exact ⟨_, (false), (by first | rfl | (simp; done) | (simp [*]; done)), H', ⟨by have := HJ1.out; have := HJ7.out; first | omega | exact Nat.le_refl _⟩, by repeat (first | exact Drawn0.refl _ | apply Drawn0.step)⟩
          case rest =>
            clear HC11
            try clear c1
            try clear p1
            try clear q1
            try clear hx1
            try clear qi1
            try clear c2
            try clear p2
            try clear q2
            try clear hx2
            try clear qi2
            try clear c3
            try clear c3b0
            try clear c3b1
            try clear c4
            try clear c4b0
            try clear c4b1
            try clear c5
            try clear p5
            try clear q5
            try clear hx5
            try clear qi5
            try clear c6
            try clear c6b0
            try clear c6b1
            try clear c7
            try clear p7
            try clear q7
            try clear hx7
            try clear qi7
            try clear c9
            try clear c10
            try clear c10b0
            try clear c10b1
            try clear c12
            try clear c12b0
            try clear c12b1
            try clear c13
            try clear c13b0
            try clear c13b1
            try clear p14
            try clear q14
            try clear hx14
            try clear qi14
            try clear c15
            try clear c15b0
            try clear c15b1
            try clear c16
            try clear c16b0
            try clear c16b1
            try clear p17
            try clear q17
            try clear hx17
            try clear qi17
            try clear c19
            try clear c19b0
            try clear c19b1
            try clear p20
            try clear q20
            try clear hx20
            try clear qi20
            try clear c22
            try clear c22b0
            try clear c22b1
            try clear p23
            try clear q23
            try clear hx23
            try clear qi23
            try clear p14
            try clear p17
            try clear p2
            try clear p20
            try clear p23
            try clear p5
            try clear p7
            try clear q14
            try clear q17
            try clear q20
            try clear q23
            try clear q5
            try clear q7
            obtain ⟨kq, x46_10, rfl, HA, HJ10, ⟨mc10, rfl⟩⟩ := hcut
            cases kq with
            | zero => exact absurd HA.out (by simp [strconv_underscoreOK.j2])
            | succ kj10 =>
              have H := HA.out
              clear HA
              simp only [strconv_underscoreOK.j2] at H
              have HC25 := Aside0.mk H
              clear H
              go_upto_if 46 with (fail)
              go_cut [3, 4, 5] (fun v3 v4 v5 wc => ∃ (kq : Nat) (x3_24 : Int) (x4_24 : Int) (x5_24 : Bool), v3 = .int .i32 x3_24 ∧ v4 = .int .i64 x4_24 ∧ v5 = .bool x5_24 ∧ Aside0 (strconv_underscoreOK.j3 kq x0_7 x3_24 x4_24 x5_24 = some r) ∧ Aside0 (kq ≤ kj10) ∧ Drawn0 w wc)
              case first =>
                have H := HC25.out
                clear HC25
                by_cases c26 : x46_10 = true
                · subst c26
                  have H1 : (if 1 < (x0_7.size : Int) then ((strconv_lower.f (bt x0_7 1)).bind fun t177 => (strconv_underscoreOK.j3 kj10 x0_7 48 2 (t177 == 120))) else (none)) = some r := by rw [if_pos rfl] at H; exact H
                  clear H
                  have H := H1
                  clear H1
                  by_cases c27 : 1 < (x0_7.size : Int)
                  · rw [if_pos c27] at H
                    have c27b0 : decide (1 < (x0_7.size : Int)) = true := decide_eq_true c27
                    have c27b1 : decide (1 < x0_7.size) = true := decide_eq_true (by omega)
                    clear c27
                    (first | rw [c27b0] | (simp only [i64_w, i32_w]; rw [c27b0]) | skip)
                    replace H := Option.bind_eq_some_iff.mp H
                    obtain ⟨t177, A290, H⟩ := H
                    replace H : (strconv_underscoreOK.j3 kj10 x0_7 48 2 (t177 == 120)) = some r := H
                    have A29 := Aside0.mk A290
                    clear A290
                    have H' := Aside0.mk H
                    clear H
                    have p28 : 0 ≤ (1 : Int) := (by omega)
                    have q28 : 1 < x0_7.size := (by have : (1 : Int) < (x0_7.size : Int) := of_decide_eq_true (by first | (with_reducible assumption) | assumption); omega)
                    have hx28 : ∀ h : 1 < x0_7.size, ((x0_7[1]'h).toNat : Int) = bt x0_7 1 := bt_at x0_7 1
                    clear p28
                    have qi28 : (1 < (x0_7.size : Int)) = True := eq_true (of_decide_eq_true (by first | (with_reducible assumption) | assumption))
                    replace q28 := eq_true q28
                    go_wp2_with (first | ((with_reducible refine gate_callee (f := 51) rfl ?_); refine goesL_ (some 49) rfl rfl Tryd.func51 (by kernel_rfl) rfl #[.int .u8 (bt x0_7 1)] rfl (by (try simp only [List.map_toArray, List.map_cons, List.map_nil]); first | done | rfl | (simp only [List.length_drop, List.length_take]; rfl)) ?_; (with_reducible refine (strconv_lower.calls (bt x0_7 1) t177 _ A29.out).mono ?_); rintro e w' ⟨rfl, ⟨nd, rfl⟩⟩; refine ⟨_, rfl, ?_⟩))
                    go_meet
                    case rel => exact ⟨_, (48), (2), ((t177 == 120)), (by first | rfl | (simp; done) | (simp [*]; done)), (by first | rfl | (simp; done) | (simp [*]; done)), (by first | rfl | (simp; done) | (simp [*]; done)), H', ⟨by have := HJ1.out; have := HJ7.out; have := HJ10.out; first | omega | exact Nat.le_refl _⟩, by repeat (first | exact Drawn0.refl _ | apply Drawn0.step)⟩
                  · rw [if_neg c27] at H
                    exact absurd H (by simp)
                · replace c26 := Bool.eq_false_iff.mpr c26
                  subst c26
                  have H1 : (strconv_underscoreOK.j3 kj10 x0_7 94 0 false) = some r := by rw [if_neg (show ¬ (false = true) by decide)] at H; exact H
                  clear H
                  have H := H1
                  clear H1
                  have H' := Aside0.mk H
                  clear H
                  go_wp2
                  go_meet
                  case rel => exact ⟨_, (94), (0), (false), (by first | rfl | (simp; done) | (simp [*]; done)), (by first | rfl | (simp; done) | (simp [*]; done)), (by first | rfl | (simp; done) | (simp [*]; done)), H', ⟨by have := HJ1.out; have := HJ7.out; have := HJ10.out; first | omega | exact Nat.le_refl _⟩, by repeat (first | exact Drawn0.refl _ | apply Drawn0.step)⟩
              case rest =>
                clear HC25
                try clear c1
                try clear p1
                try clear q1
                try clear hx1
                try clear qi1
                try clear c2
                try clear p2
                try clear q2
                try clear hx2
                try clear qi2
                try clear c3
                try clear c3b0
                try clear c3b1
                try clear c4
                try clear c4b0
                try clear c4b1
                try clear c5
                try clear p5
                try clear q5
                try clear hx5
                try clear qi5
                try clear c6
                try clear c6b0
                try clear c6b1
                try clear c7
                try clear p7
                try clear q7
                try clear hx7
                try clear qi7
                try clear c9
                try clear c10
                try clear c10b0
                try clear c10b1
                try clear c12
                try clear c12b0
                try clear c12b1
                try clear c13
                try clear c13b0
                try clear c13b1
                try clear p14
                try clear q14
                try clear hx14
                try clear qi14
                try clear c15
                try clear c15b0
                try clear c15b1
                try clear c16
                try clear c16b0
                try clear c16b1
                try clear p17
                try clear q17
                try clear hx17
                try clear qi17
                try clear c19
                try clear c19b0
                try clear c19b1
                try clear p20
                try clear q20
                try clear hx20
                try clear qi20
                try clear c22
                try clear c22b0
                try clear c22b1
                try clear p23
                try clear q23
                try clear hx23
                try clear qi23
                try clear c26
                try clear c27
                try clear c27b0
                try clear c27b1
                try clear p28
                try clear q28
                try clear hx28
                try clear qi28
                try clear p1
                try clear p14
                try clear p17
                try clear p2
                try clear p20
                try clear p23
                try clear p28
                try clear p5
                try clear p7
                try clear q1
                try clear q14
                try clear q17
                try clear q2
                try clear q20
                try clear q23
                try clear q28
                try clear q5
                try clear q7
                obtain ⟨kq, x3_24, x4_24, x5_24, rfl, rfl, rfl, HA, HJ24, ⟨mc24, rfl⟩⟩ := hcut
                cases kq with
                | zero => exact absurd HA.out (by simp [strconv_underscoreOK.j3])
                | succ kj24 =>
                  have H := HA.out
                  clear HA
                  simp only [strconv_underscoreOK.j3] at H
                  have H' := Aside0.mk H
                  clear H
                  go_wp2
                  go_loopg [3, 4] kj24 (fun kq v3 v4 w' => ∃ (x3_5 : Int) (x4_5 : Int), v3 = .int .i32 x3_5 ∧ v4 = .int .i64 x4_5 ∧ Aside0 (strconv_underscoreOK.l0 kq x0_7 x3_5 x4_5 x5_24 = some r) ∧ Aside0 (kq ≤ kj24) ∧ Drawn0 w w')
                  case atStart => exact ⟨(x3_24), (x4_24), (by first | rfl | (simp; done) | (simp [*]; done)), (by first | rfl | (simp; done) | (simp [*]; done)), H', ⟨Nat.le_refl _⟩, by repeat (first | exact Drawn0.refl _ | apply Drawn0.step)⟩
                  case round =>
                    clear H'
                    try clear c1
                    try clear p1
                    try clear q1
                    try clear hx1
                    try clear qi1
                    try clear c2
                    try clear p2
                    try clear q2
                    try clear hx2
                    try clear qi2
                    try clear c3
                    try clear c3b0
                    try clear c3b1
                    try clear c4
                    try clear c4b0
                    try clear c4b1
                    try clear c5
                    try clear p5
                    try clear q5
                    try clear hx5
                    try clear qi5
                    try clear c6
                    try clear c6b0
                    try clear c6b1
                    try clear c7
                    try clear p7
                    try clear q7
                    try clear hx7
                    try clear qi7
                    try clear c9
                    try clear c10
                    try clear c10b0
                    try clear c10b1
                    try clear c12
                    try clear c12b0
                    try clear c12b1
                    try clear c13
                    try clear c13b0
                    try clear c13b1
                    try clear p14
                    try clear q14
                    try clear hx14
                    try clear qi14
                    try clear c15
                    try clear c15b0
                    try clear c15b1
                    try clear c16
                    try clear c16b0
                    try clear c16b1
                    try clear p17
                    try clear q17
                    try clear hx17
                    try clear qi17
                    try clear c19
                    try clear c19b0
                    try clear c19b1
                    try clear p20
                    try clear q20
                    try clear hx20
                    try clear qi20
                    try clear c22
                    try clear c22b0
                    try clear c22b1
                    try clear p23
                    try clear q23
                    try clear hx23
                    try clear qi23
                    try clear c24
                    try clear c26
                    try clear c27
                    try clear c27b0
                    try clear c27b1
                    try clear p28
                    try clear q28
                    try clear hx28
                    try clear qi28
                    try clear p1
                    try clear p14
                    try clear p17
                    try clear p2
                    try clear p20
                    try clear p23
                    try clear p28
                    try clear p5
                    try clear p7
                    try clear q1
                    try clear q14
                    try clear q17
                    try clear q2
                    try clear q20
                    try clear q23
                    try clear q28
                    try clear q5
                    try clear q7
                    obtain ⟨x3_5, x4_5, rfl, rfl, HA, HK5, ⟨m5, rfl⟩⟩ := hrel
                    cases gk with
                    | zero => exact absurd HA.out (by simp [strconv_underscoreOK.l0])
                    | succ k5 =>
                      have H := HA.out
                      clear HA
                      simp only [strconv_underscoreOK.l0] at H
                      by_cases c30 : x4_5 < (x0_7.size : Int)
                      · rw [if_pos c30] at H
                        have c30b0 : decide (x4_5 < (x0_7.size : Int)) = true := decide_eq_true c30
                        clear c30
                        have HC31 := Aside0.mk H
                        clear H
                        go_upto_region 12 with (fail)
                        go_cut [83] (fun v83 wc => ∃ (kq : Nat) (x83_30 : Bool), v83 = .bool x83_30 ∧ Aside0 (strconv_underscoreOK.j5 kq x0_7 x3_5 x4_5 x5_24 x83_30 = some r) ∧ Aside0 (kq ≤ k5) ∧ Drawn0 w wc)
                        case first =>
                          have H := HC31.out
                          clear HC31
                          by_cases c32 : 0 ≤ x4_5
                          · rw [if_pos c32] at H
                            have c32b0 : decide (0 ≤ x4_5) = true := decide_eq_true c32
                            clear c32
                            (first | rw [c32b0] | (simp only [i64_w, i32_w]; rw [c32b0]) | skip)
                            by_cases c34 : 48 ≤ (bt x0_7 x4_5)
                            · rw [if_pos c34] at H
                              have c34b0 : decide (48 ≤ (bt x0_7 x4_5)) = true := decide_eq_true c34
                              clear c34
                              by_cases c36 : (bt x0_7 x4_5) ≤ 57
                              · rw [if_pos c36] at H
                                have c36b0 : decide ((bt x0_7 x4_5) ≤ 57) = true := decide_eq_true c36
                                clear c36
                                have H' := Aside0.mk H
                                clear H
                                have p33 : 0 ≤ (x4_5 : Int) := of_decide_eq_true (by first | (with_reducible assumption) | assumption)
                                have q33 : x4_5 < (x0_7.size : Int) := of_decide_eq_true (by first | (with_reducible assumption) | assumption)
                                have hx33 := bt_at x0_7 x4_5
                                replace p33 := eq_true p33
                                replace q33 := eq_true q33
                                have p35 : 0 ≤ (x4_5 : Int) := of_decide_eq_true (by first | (with_reducible assumption) | assumption)
                                have q35 : x4_5 < (x0_7.size : Int) := of_decide_eq_true (by first | (with_reducible assumption) | assumption)
                                have hx35 := bt_at x0_7 x4_5
                                replace p35 := eq_true p35
                                replace q35 := eq_true q35
                                go_wp2
                                go_meet
                                case rel => exact ⟨_, (true), (by first | rfl | (simp; done) | (simp [*]; done)), H', ⟨by have := HJ1.out; have := HJ7.out; have := HJ10.out; have := HJ24.out; have := HK5.out; first | omega | exact Nat.le_refl _⟩, by repeat (first | exact Drawn0.refl _ | apply Drawn0.step)⟩
                              · rw [if_neg c36] at H
                                have c36b0 : decide ((bt x0_7 x4_5) ≤ 57) = false := decide_eq_false c36
                                clear c36
                                by_cases c37 : x5_24 = true
                                · subst c37
                                  have H1 : ((strconv_lower.f (bt x0_7 x4_5)).bind fun t178 => (if 97 ≤ t178 then ((strconv_lower.f (bt x0_7 x4_5)).bind fun t179 => (strconv_underscoreOK.j5 k5 x0_7 x3_5 x4_5 true (decide (t179 ≤ 102)))) else (strconv_underscoreOK.j5 k5 x0_7 x3_5 x4_5 true false))) = some r := by rw [if_pos rfl] at H; exact H
                                  clear H
                                  have H := H1
                                  clear H1
                                  replace H := Option.bind_eq_some_iff.mp H
                                  obtain ⟨t178, A390, H⟩ := H
                                  replace H : (if 97 ≤ t178 then ((strconv_lower.f (bt x0_7 x4_5)).bind fun t179 => (strconv_underscoreOK.j5 k5 x0_7 x3_5 x4_5 true (decide (t179 ≤ 102)))) else (strconv_underscoreOK.j5 k5 x0_7 x3_5 x4_5 true false)) = some r := H
                                  have A39 := Aside0.mk A390
                                  clear A390
                                  by_cases c40 : 97 ≤ t178
                                  · rw [if_pos c40] at H
                                    have c40b0 : decide (97 ≤ t178) = true := decide_eq_true c40
                                    clear c40
                                    replace H := Option.bind_eq_some_iff.mp H
                                    obtain ⟨t179x, A420, H⟩ := H
                                    obtain rfl : t178 = t179x := Option.some.inj (A39.out.symm.trans A420)
                                    replace H : (strconv_underscoreOK.j5 k5 x0_7 x3_5 x4_5 true (decide (t178 ≤ 102))) = some r := H
                                    have A42 := Aside0.mk A420
                                    clear A420
                                    have H' := Aside0.mk H
                                    clear H
                                    have p33 : 0 ≤ (x4_5 : Int) := of_decide_eq_true (by first | (with_reducible assumption) | assumption)
                                    have q33 : x4_5 < (x0_7.size : Int) := of_decide_eq_true (by first | (with_reducible assumption) | assumption)
                                    have hx33 := bt_at x0_7 x4_5
                                    replace p33 := eq_true p33
                                    replace q33 := eq_true q33
                                    have p35 : 0 ≤ (x4_5 : Int) := of_decide_eq_true (by first | (with_reducible assumption) | assumption)
                                    have q35 : x4_5 < (x0_7.size : Int) := of_decide_eq_true (by first | (with_reducible assumption) | assumption)
                                    have hx35 := bt_at x0_7 x4_5
                                    replace p35 := eq_true p35
                                    replace q35 := eq_true q35
                                    have p38 : 0 ≤ (x4_5 : Int) := of_decide_eq_true (by first | (with_reducible assumption) | assumption)
                                    have q38 : x4_5 < (x0_7.size : Int) := of_decide_eq_true (by first | (with_reducible assumption) | assumption)
                                    have hx38 := bt_at x0_7 x4_5
                                    replace p38 := eq_true p38
                                    replace q38 := eq_true q38
                                    go_wp2_with (first | (go_at_call 51; (with_reducible refine (strconv_lower.calls (bt x0_7 x4_5) t178 _ A39.out).mono ?_); rintro e w' ⟨rfl, ⟨nd, rfl⟩⟩; have p41 : 0 ≤ (x4_5 : Int) := of_decide_eq_true (by first | (with_reducible assumption) | assumption); have q41 : x4_5 < (x0_7.size : Int) := of_decide_eq_true (by first | (with_reducible assumption) | assumption); have hx41 := bt_at x0_7 x4_5; replace p41 := eq_true p41; replace q41 := eq_true q41) | (go_at_call 51; (with_reducible refine (strconv_lower.calls (bt x0_7 x4_5) t178 _ A42.out).mono ?_); rintro e w' ⟨rfl, ⟨nd, rfl⟩⟩))
                                    go_meet
                                    case rel => exact ⟨_, (decide (t178 ≤ 102)), (by first | rfl | (simp; done) | (simp [*]; done)), H', ⟨by have := HJ1.out; have := HJ7.out; have := HJ10.out; have := HJ24.out; have := HK5.out; first | omega | exact Nat.le_refl _⟩, by repeat (first | exact Drawn0.refl _ | apply Drawn0.step)⟩
                                  · rw [if_neg c40] at H
                                    have c40b0 : decide (97 ≤ t178) = false := decide_eq_false c40
                                    clear c40
                                    have H' := Aside0.mk H
                                    clear H
                                    have p33 : 0 ≤ (x4_5 : Int) := of_decide_eq_true (by first | (with_reducible assumption) | assumption)
                                    have q33 : x4_5 < (x0_7.size : Int) := of_decide_eq_true (by first | (with_reducible assumption) | assumption)
                                    have hx33 := bt_at x0_7 x4_5
                                    replace p33 := eq_true p33
                                    replace q33 := eq_true q33
                                    have p35 : 0 ≤ (x4_5 : Int) := of_decide_eq_true (by first | (with_reducible assumption) | assumption)
                                    have q35 : x4_5 < (x0_7.size : Int) := of_decide_eq_true (by first | (with_reducible assumption) | assumption)
                                    have hx35 := bt_at x0_7 x4_5
                                    replace p35 := eq_true p35
                                    replace q35 := eq_true q35
                                    have p38 : 0 ≤ (x4_5 : Int) := of_decide_eq_true (by first | (with_reducible assumption) | assumption)
                                    have q38 : x4_5 < (x0_7.size : Int) := of_decide_eq_true (by first | (with_reducible assumption) | assumption)
                                    have hx38 := bt_at x0_7 x4_5
                                    replace p38 := eq_true p38
                                    replace q38 := eq_true q38
                                    go_wp2_with (first | (go_at_call 51; (with_reducible refine (strconv_lower.calls (bt x0_7 x4_5) t178 _ A39.out).mono ?_); rintro e w' ⟨rfl, ⟨nd, rfl⟩⟩))
                                    go_meet
                                    case rel => exact ⟨_, (false), (by first | rfl | (simp; done) | (simp [*]; done)), H', ⟨by have := HJ1.out; have := HJ7.out; have := HJ10.out; have := HJ24.out; have := HK5.out; first | omega | exact Nat.le_refl _⟩, by repeat (first | exact Drawn0.refl _ | apply Drawn0.step)⟩
                                · replace c37 := Bool.eq_false_iff.mpr c37
                                  subst c37
                                  have H1 : (strconv_underscoreOK.j5 k5 x0_7 x3_5 x4_5 false false) = some r := by rw [if_neg (show ¬ (false = true) by decide)] at H; exact H
                                  clear H
                                  have H := H1
                                  clear H1
                                  have H' := Aside0.mk H
                                  clear H
                                  have p33 : 0 ≤ (x4_5 : Int) := of_decide_eq_true (by first | (with_reducible assumption) | assumption)
                                  have q33 : x4_5 < (x0_7.size : Int) := of_decide_eq_true (by first | (with_reducible assumption) | assumption)
                                  have hx33 := bt_at x0_7 x4_5
                                  replace p33 := eq_true p33
                                  replace q33 := eq_true q33
                                  have p35 : 0 ≤ (x4_5 : Int) := of_decide_eq_true (by first | (with_reducible assumption) | assumption)
                                  have q35 : x4_5 < (x0_7.size : Int) := of_decide_eq_true (by first | (with_reducible assumption) | assumption)
                                  have hx35 := bt_at x0_7 x4_5
                                  replace p35 := eq_true p35
                                  replace q35 := eq_true q35
                                  go_wp2
                                  go_meet
                                  case rel => exact ⟨_, (false), (by first | rfl | (simp; done) | (simp [*]; done)), H', ⟨by have := HJ1.out; have := HJ7.out; have := HJ10.out; have := HJ24.out; have := HK5.out; first | omega | exact Nat.le_refl _⟩, by repeat (first | exact Drawn0.refl _ | apply Drawn0.step)⟩
                            · rw [if_neg c34] at H
                              have c34b0 : decide (48 ≤ (bt x0_7 x4_5)) = false := decide_eq_false c34
                              clear c34
                              by_cases c43 : x5_24 = true
                              · subst c43
                                have H1 : ((strconv_lower.f (bt x0_7 x4_5)).bind fun t180 => (if 97 ≤ t180 then ((strconv_lower.f (bt x0_7 x4_5)).bind fun t181 => (strconv_underscoreOK.j5 k5 x0_7 x3_5 x4_5 true (decide (t181 ≤ 102)))) else (strconv_underscoreOK.j5 k5 x0_7 x3_5 x4_5 true false))) = some r := by rw [if_pos rfl] at H; exact H
                                clear H
                                have H := H1
                                clear H1
                                replace H := Option.bind_eq_some_iff.mp H
                                obtain ⟨t180, A450, H⟩ := H
                                replace H : (if 97 ≤ t180 then ((strconv_lower.f (bt x0_7 x4_5)).bind fun t181 => (strconv_underscoreOK.j5 k5 x0_7 x3_5 x4_5 true (decide (t181 ≤ 102)))) else (strconv_underscoreOK.j5 k5 x0_7 x3_5 x4_5 true false)) = some r := H
                                have A45 := Aside0.mk A450
                                clear A450
                                by_cases c46 : 97 ≤ t180
                                · rw [if_pos c46] at H
                                  have c46b0 : decide (97 ≤ t180) = true := decide_eq_true c46
                                  clear c46
                                  replace H := Option.bind_eq_some_iff.mp H
                                  obtain ⟨t181x, A480, H⟩ := H
                                  obtain rfl : t180 = t181x := Option.some.inj (A45.out.symm.trans A480)
                                  replace H : (strconv_underscoreOK.j5 k5 x0_7 x3_5 x4_5 true (decide (t180 ≤ 102))) = some r := H
                                  have A48 := Aside0.mk A480
                                  clear A480
                                  have H' := Aside0.mk H
                                  clear H
                                  have p33 : 0 ≤ (x4_5 : Int) := of_decide_eq_true (by first | (with_reducible assumption) | assumption)
                                  have q33 : x4_5 < (x0_7.size : Int) := of_decide_eq_true (by first | (with_reducible assumption) | assumption)
                                  have hx33 := bt_at x0_7 x4_5
                                  replace p33 := eq_true p33
                                  replace q33 := eq_true q33
                                  have p44 : 0 ≤ (x4_5 : Int) := of_decide_eq_true (by first | (with_reducible assumption) | assumption)
                                  have q44 : x4_5 < (x0_7.size : Int) := of_decide_eq_true (by first | (with_reducible assumption) | assumption)
                                  have hx44 := bt_at x0_7 x4_5
                                  replace p44 := eq_true p44
                                  replace q44 := eq_true q44
                                  go_wp2_with (first | (go_at_call 51; (with_reducible refine (strconv_lower.calls (bt x0_7 x4_5) t180 _ A45.out).mono ?_); rintro e w' ⟨rfl, ⟨nd, rfl⟩⟩; have p47 : 0 ≤ (x4_5 : Int) := of_decide_eq_true (by first | (with_reducible assumption) | assumption); have q47 : x4_5 < (x0_7.size : Int) := of_decide_eq_true (by first | (with_reducible assumption) | assumption); have hx47 := bt_at x0_7 x4_5; replace p47 := eq_true p47; replace q47 := eq_true q47) | (go_at_call 51; (with_reducible refine (strconv_lower.calls (bt x0_7 x4_5) t180 _ A48.out).mono ?_); rintro e w' ⟨rfl, ⟨nd, rfl⟩⟩))
                                  go_meet
                                  case rel => exact ⟨_, (decide (t180 ≤ 102)), (by first | rfl | (simp; done) | (simp [*]; done)), H', ⟨by have := HJ1.out; have := HJ7.out; have := HJ10.out; have := HJ24.out; have := HK5.out; first | omega | exact Nat.le_refl _⟩, by repeat (first | exact Drawn0.refl _ | apply Drawn0.step)⟩
                                · rw [if_neg c46] at H
                                  have c46b0 : decide (97 ≤ t180) = false := decide_eq_false c46
                                  clear c46
                                  have H' := Aside0.mk H
                                  clear H
                                  have p33 : 0 ≤ (x4_5 : Int) := of_decide_eq_true (by first | (with_reducible assumption) | assumption)
                                  have q33 : x4_5 < (x0_7.size : Int) := of_decide_eq_true (by first | (with_reducible assumption) | assumption)
                                  have hx33 := bt_at x0_7 x4_5
                                  replace p33 := eq_true p33
                                  replace q33 := eq_true q33
                                  have p44 : 0 ≤ (x4_5 : Int) := of_decide_eq_true (by first | (with_reducible assumption) | assumption)
                                  have q44 : x4_5 < (x0_7.size : Int) := of_decide_eq_true (by first | (with_reducible assumption) | assumption)
                                  have hx44 := bt_at x0_7 x4_5
                                  replace p44 := eq_true p44
                                  replace q44 := eq_true q44
                                  go_wp2_with (first | (go_at_call 51; (with_reducible refine (strconv_lower.calls (bt x0_7 x4_5) t180 _ A45.out).mono ?_); rintro e w' ⟨rfl, ⟨nd, rfl⟩⟩))
                                  go_meet
                                  case rel => exact ⟨_, (false), (by first | rfl | (simp; done) | (simp [*]; done)), H', ⟨by have := HJ1.out; have := HJ7.out; have := HJ10.out; have := HJ24.out; have := HK5.out; first | omega | exact Nat.le_refl _⟩, by repeat (first | exact Drawn0.refl _ | apply Drawn0.step)⟩
                              · replace c43 := Bool.eq_false_iff.mpr c43
                                subst c43
                                have H1 : (strconv_underscoreOK.j5 k5 x0_7 x3_5 x4_5 false false) = some r := by rw [if_neg (show ¬ (false = true) by decide)] at H; exact H
                                clear H
                                have H := H1
                                clear H1
                                have H' := Aside0.mk H
                                clear H
                                have p33 : 0 ≤ (x4_5 : Int) := of_decide_eq_true (by first | (with_reducible assumption) | assumption)
                                have q33 : x4_5 < (x0_7.size : Int) := of_decide_eq_true (by first | (with_reducible assumption) | assumption)
                                have hx33 := bt_at x0_7 x4_5
                                replace p33 := eq_true p33
                                replace q33 := eq_true q33
                                go_wp2
                                go_meet
                                case rel => exact ⟨_, (false), (by first | rfl | (simp; done) | (simp [*]; done)), H', ⟨by have := HJ1.out; have := HJ7.out; have := HJ10.out; have := HJ24.out; have := HK5.out; first | omega | exact Nat.le_refl _⟩, by repeat (first | exact Drawn0.refl _ | apply Drawn0.step)⟩
                          · rw [if_neg c32] at H
                            exact absurd H (by simp)
                        case rest =>
                          clear HC31
                          try clear c1
                          try clear p1
                          try clear q1
                          try clear hx1
                          try clear qi1
                          try clear c2
                          try clear p2
                          try clear q2
                          try clear hx2
                          try clear qi2
                          try clear c3
                          try clear c3b0
                          try clear c3b1
                          try clear p3
                          try clear q3
                          try clear hx3
                          try clear c4
                          try clear c4b0
                          try clear c4b1
                          try clear p4
                          try clear q4
                          try clear hx4
                          try clear c5
                          try clear p5
                          try clear q5
                          try clear hx5
                          try clear qi5
                          try clear c6
                          try clear c6b0
                          try clear c6b1
                          try clear c7
                          try clear p7
                          try clear q7
                          try clear hx7
                          try clear qi7
                          try clear c9
                          try clear c10
                          try clear c10b0
                          try clear c10b1
                          try clear c12
                          try clear c12b0
                          try clear c12b1
                          try clear c13
                          try clear c13b0
                          try clear c13b1
                          try clear p14
                          try clear q14
                          try clear hx14
                          try clear qi14
                          try clear c15
                          try clear c15b0
                          try clear c15b1
                          try clear c16
                          try clear c16b0
                          try clear c16b1
                          try clear p17
                          try clear q17
                          try clear hx17
                          try clear qi17
                          try clear c19
                          try clear c19b0
                          try clear c19b1
                          try clear p20
                          try clear q20
                          try clear hx20
                          try clear qi20
                          try clear c22
                          try clear c22b0
                          try clear c22b1
                          try clear p23
                          try clear q23
                          try clear hx23
                          try clear qi23
                          try clear c24
                          try clear c26
                          try clear c27
                          try clear c27b0
                          try clear c27b1
                          try clear p28
                          try clear q28
                          try clear hx28
                          try clear qi28
                          try clear c30
                          try clear c30b0
                          try clear c32
                          try clear c32b0
                          try clear p33
                          try clear q33
                          try clear hx33
                          try clear c34
                          try clear c34b0
                          try clear p35
                          try clear q35
                          try clear hx35
                          try clear c36
                          try clear c36b0
                          try clear c37
                          try clear p38
                          try clear q38
                          try clear hx38
                          try clear c40
                          try clear c40b0
                          try clear p41
                          try clear q41
                          try clear hx41
                          try clear c43
                          try clear p44
                          try clear q44
                          try clear hx44
                          try clear c46
                          try clear c46b0
                          try clear p47
                          try clear q47
                          try clear hx47
                          try clear p1
                          try clear p14
                          try clear p17
                          try clear p2
                          try clear p20
                          try clear p23
                          try clear p28
                          try clear p33
                          try clear p35
                          try clear p38
                          try clear p41
                          try clear p44
                          try clear p47
                          try clear p5
                          try clear p7
                          try clear q1
                          try clear q14
                          try clear q17
                          try clear q2
                          try clear q20
                          try clear q23
                          try clear q28
                          try clear q33
                          try clear q35
                          try clear q38
                          try clear q41
                          try clear q44
                          try clear q47
                          try clear q5
                          try clear q7
                          obtain ⟨kq, x83_30, rfl, HA, HJ30, ⟨mc30, rfl⟩⟩ := hcut
                          cases kq with
                          | zero => exact absurd HA.out (by simp [strconv_underscoreOK.j5])
                          | succ kj30 =>
                            have H := HA.out
                            clear HA
                            simp only [strconv_underscoreOK.j5] at H
                            by_cases c49 : x83_30 = true
                            · subst c49
                              have H1 : (strconv_underscoreOK.l0 kj30 x0_7 48 (wrap64 (x4_5 + 1)) x5_24) = some r := by rw [if_pos rfl] at H; exact H
                              clear H
                              have H := H1
                              clear H1
                              have H' := Aside0.mk H
                              clear H
                              go_wp2
                              go_roundg kj30
                              case measure => have := HJ1.out; have := HJ7.out; have := HJ10.out; have := HJ24.out; have := HK5.out; have := HJ30.out; omega
                              case rel => exact ⟨(48), (wrap64 (x4_5 + 1)), (by first | rfl | (simp; done) | (simp [*]; done)), (by first | rfl | (simp; done) | (simp [*]; done)), H', ⟨by have := HJ1.out; have := HJ7.out; have := HJ10.out; have := HJ24.out; have := HK5.out; have := HJ30.out; omega⟩, by repeat (first | exact Drawn0.refl _ | apply Drawn0.step)⟩
                            · replace c49 := Bool.eq_false_iff.mpr c49
                              subst c49
                              have H1 : (if 0 ≤ x4_5 then (if x4_5 < (x0_7.size : Int) then (if (bt x0_7 x4_5) = 95 then (if x3_5 = 48 then (strconv_underscoreOK.l0 kj30 x0_7 95 (wrap64 (x4_5 + 1)) x5_24) else (some false)) else (if x3_5 = 95 then (some false) else (strconv_underscoreOK.l0 kj30 x0_7 33 (wrap64 (x4_5 + 1)) x5_24))) else (none)) else (none)) = some r := by rw [if_neg (show ¬ (false = true) by decide)] at H; exact H
                              clear H
                              have H := H1
                              clear H1
                              by_cases c50 : 0 ≤ x4_5
                              · rw [if_pos c50] at H
                                have c50b0 : decide (0 ≤ x4_5) = true := decide_eq_true c50
                                clear c50
                                by_cases c51 : x4_5 < (x0_7.size : Int)
                                · rw [if_pos c51] at H
                                  have c51b0 : decide (x4_5 < (x0_7.size : Int)) = true := decide_eq_true c51
                                  clear c51
                                  by_cases c53 : (bt x0_7 x4_5) = 95
                                  · rw [if_pos c53] at H
                                    have c53b0 : ((bt x0_7 x4_5) == 95) = true := beq_iff_eq.mpr c53
                                    have c53b1 : ((bt x0_7 x4_5) != 95) = false := bne_eq_false_iff_eq.mpr c53
                                    clear c53
                                    by_cases c54 : x3_5 = 48
                                    · rw [if_pos c54] at H
                                      have c54b0 : (x3_5 == 48) = true := beq_iff_eq.mpr c54
                                      have c54b1 : (x3_5 != 48) = false := bne_eq_false_iff_eq.mpr c54
                                      clear c54
                                      have H' := Aside0.mk H
                                      clear H
                                      have p52 : 0 ≤ (x4_5 : Int) := of_decide_eq_true (by first | (with_reducible assumption) | assumption)
                                      have q52 : x4_5 < (x0_7.size : Int) := of_decide_eq_true (by first | (with_reducible assumption) | assumption)
                                      have hx52 := bt_at x0_7 x4_5
                                      replace p52 := eq_true p52
                                      replace q52 := eq_true q52
                                      go_wp2
                                      go_roundg kj30
                                      case measure => have := HJ1.out; have := HJ7.out; have := HJ10.out; have := HJ24.out; have := HK5.out; have := HJ30.out; omega
                                      case rel => exact ⟨(95), (wrap64 (x4_5 + 1)), (by first | rfl | (simp; done) | (simp [*]; done)), (by first | rfl | (simp; done) | (simp [*]; done)), H', ⟨by have := HJ1.out; have := HJ7.out; have := HJ10.out; have := HJ24.out; have := HK5.out; have := HJ30.out; omega⟩, by repeat (first | exact Drawn0.refl _ | apply Drawn0.step)⟩
                                    · rw [if_neg c54] at H
                                      have c54b0 : (x3_5 == 48) = false := beq_eq_false_iff_ne.mpr c54
                                      have c54b1 : (x3_5 != 48) = true := bne_iff_ne.mpr c54
                                      obtain rfl := Option.some.inj H
                                      have p52 : 0 ≤ (x4_5 : Int) := of_decide_eq_true (by first | (with_reducible assumption) | assumption)
                                      have q52 : x4_5 < (x0_7.size : Int) := of_decide_eq_true (by first | (with_reducible assumption) | assumption)
                                      have hx52 := bt_at x0_7 x4_5
                                      replace p52 := eq_true p52
                                      replace q52 := eq_true q52
                                      go_wp2
                                      go_ret
                                      exact ⟨by first | rfl | (simp; done) | (simp [*]; done), by repeat (first | exact Drawn0.refl _ | apply Drawn0.step)⟩
                                  · rw [if_neg c53] at H
                                    have c53b0 : ((bt x0_7 x4_5) == 95) = false := beq_eq_false_iff_ne.mpr c53
                                    have c53b1 : ((bt x0_7 x4_5) != 95) = true := bne_iff_ne.mpr c53
                                    by_cases c55 : x3_5 = 95
                                    · rw [if_pos c55] at H
                                      have c55b0 : (x3_5 == 95) = true := beq_iff_eq.mpr c55
                                      have c55b1 : (x3_5 != 95) = false := bne_eq_false_iff_eq.mpr c55
                                      clear c55
                                      obtain rfl := Option.some.inj H
                                      have p52 : 0 ≤ (x4_5 : Int) := of_decide_eq_true (by first | (with_reducible assumption) | assumption)
                                      have q52 : x4_5 < (x0_7.size : Int) := of_decide_eq_true (by first | (with_reducible assumption) | assumption)
                                      have hx52 := bt_at x0_7 x4_5
                                      replace p52 := eq_true p52
                                      replace q52 := eq_true q52
                                      go_wp2
                                      go_ret
                                      exact ⟨by first | rfl | (simp; done) | (simp [*]; done), by repeat (first | exact Drawn0.refl _ | apply Drawn0.step)⟩
                                    · rw [if_neg c55] at H
                                      have c55b0 : (x3_5 == 95) = false := beq_eq_false_iff_ne.mpr c55
                                      have c55b1 : (x3_5 != 95) = true := bne_iff_ne.mpr c55
                                      have H' := Aside0.mk H
                                      clear H
                                      have p52 : 0 ≤ (x4_5 : Int) := of_decide_eq_true (by first | (with_reducible assumption) | assumption)
                                      have q52 : x4_5 < (x0_7.size : Int) := of_decide_eq_true (by first | (with_reducible assumption) | assumption)
                                      have hx52 := bt_at x0_7 x4_5
                                      replace p52 := eq_true p52
                                      replace q52 := eq_true q52
                                      go_wp2
                                      go_roundg kj30
                                      case measure => have := HJ1.out; have := HJ7.out; have := HJ10.out; have := HJ24.out; have := HK5.out; have := HJ30.out; omega
                                      case rel => exact ⟨(33), (wrap64 (x4_5 + 1)), (by first | rfl | (simp; done) | (simp [*]; done)), (by first | rfl | (simp; done) | (simp [*]; done)), H', ⟨by have := HJ1.out; have := HJ7.out; have := HJ10.out; have := HJ24.out; have := HK5.out; have := HJ30.out; omega⟩, by repeat (first | exact Drawn0.refl _ | apply Drawn0.step)⟩
                                · rw [if_neg c51] at H
                                  exact absurd H (by simp)
                              · rw [if_neg c50] at H
                                exact absurd H (by simp)
                      · rw [if_neg c30] at H
                        have c30b0 : decide (x4_5 < (x0_7.size : Int)) = false := decide_eq_false c30
                        clear c30
                        obtain rfl := Option.some.inj H
                        go_wp2
                        go_ret
                        exact ⟨by first | rfl | (simp; done) | (simp [*]; done), by repeat (first | exact Drawn0.refl _ | apply Drawn0.step)⟩

end Go.Proofs.YtjabjcgomnjpcaaDoor.PM
