-- Written by a program of this session.
import Derived.Test.YtkdmdoflfaldiaaPSx0
import Derived.Test.YtkdmdoflfaldiaaPSx1
namespace Go.Proofs.Ytkdmdoflfaldiaa.PS
open Go.RowKit Go.Proofs.YtkdmdoflfaldiaaW.PrintWords Go.Proofs.YtkdmdoflfaldiaaW.PrintLast Go.Proofs.YtkdmdoflfaldiaaW.PrintMore
attribute [local go_sem] max2_int min2_int max_two min_two max_three min_three max_four min_four   -- for this text's walks alone
set_option linter.unusedVariables false
set_option linter.unusedSimpArgs false

/-! ### transform_zzIndex: function 33 -/
def transform_zzIndex.l0 : Nat → ByteArray → ByteArray → Int → Option (Int)
  | 0, _, _, _ => none
  | k + 1, x0, x1, x5 => if (wrap64 (x5 + (x1.size : Int))) ≤ (x0.size : Int) then (if 0 ≤ x5 then (if x5 ≤ (wrap64 (x5 + (x1.size : Int))) then (if (x0.extract (x5 : Int).toNat ((wrap64 (x5 + (x1.size : Int))) : Int).toNat).toList = x1.toList then (some x5) else (transform_zzIndex.l0 k x0 x1 (wrap64 (x5 + 1)))) else (none)) else (none)) else (some (-1))
def transform_zzIndex.f (k : Nat) (a0 : ByteArray) (a1 : ByteArray) : Option (Int) := transform_zzIndex.l0 k a0 a1 0
theorem transform_zzIndex.mono_l : ∀ k, (∀ y0 y1 y2, LeO (transform_zzIndex.l0 k y0 y1 y2) (transform_zzIndex.l0 (k + 1) y0 y1 y2))
  | 0 => fun _ _ _ r h => by simp [transform_zzIndex.l0] at h
  | k + 1 => by
    have ih0 := transform_zzIndex.mono_l k
    · intro y0 y1 y2
      unfold transform_zzIndex.l0
      repeat' first
      | (with_reducible exact ih0 _ _ _)
      | (with_reducible exact LeO.refl _)
      | (with_reducible exact LeO.none _)
      | (with_reducible refine LeO.ite ?_ ?_)
      | (with_reducible refine LeO.bind ?_ (fun _ => ?_))
      | exact ih0 _ _ _
      | exact LeO.none _
      | refine LeO.ite ?_ ?_
      | refine LeO.bind ?_ (fun _ => ?_)
theorem transform_zzIndex.mono : ∀ a0 a1 k, LeO (transform_zzIndex.f k a0 a1) (transform_zzIndex.f (k + 1) a0 a1) := by
  intro a0 a1 k
  have ih0 := transform_zzIndex.mono_l k
  unfold transform_zzIndex.f
  repeat' first
      | (with_reducible exact ih0 _ _ _)
      | (with_reducible exact LeO.refl _)
      | (with_reducible exact LeO.none _)
      | (with_reducible refine LeO.ite ?_ ?_)
      | (with_reducible refine LeO.bind ?_ (fun _ => ?_))
      | exact ih0 _ _ _
      | exact LeO.none _
      | refine LeO.ite ?_ ?_
      | refine LeO.bind ?_ (fun _ => ?_)
set_option maxHeartbeats 8000000 in
set_option maxRecDepth 100000 in
theorem transform_zzIndex.calls (k : Nat) (a0 : ByteArray) (a1 : ByteArray) (r : Int) (w : World) (h : transform_zzIndex.f k a0 a1 = some r) :
    Calls Try.prog 33 #[.string a0, .string a1] w fun e w' => e = .returned (.int .i64 r) ∧ Drawn0 w w' := by
  have H : (transform_zzIndex.l0 k a0 a1 0) = some r := h
  clear h
  have H' := Aside0.mk H
  clear H
  go_enter Try.func33, Try.ntmps33
  go_wp2
  go_loopg [5] k (fun kq v5 w' => ∃ (x5_1 : Int), v5 = .int .i64 x5_1 ∧ Aside0 (transform_zzIndex.l0 kq a0 a1 x5_1 = some r) ∧ Aside0 (kq ≤ k) ∧ Drawn0 w w')
  case atStart => exact ⟨(0), (by first | rfl | (simp; done) | (simp [*]; done)), H', ⟨Nat.le_refl _⟩, by repeat (first | exact Drawn0.refl _ | apply Drawn0.step)⟩
  case round =>
    clear H'
    try clear p2
    obtain ⟨x5_1, rfl, HA, HK1, ⟨m1, rfl⟩⟩ := hrel
    cases gk with
    | zero => exact absurd HA.out (by simp [transform_zzIndex.l0])
    | succ k1 =>
      have H := HA.out
      clear HA
      simp only [transform_zzIndex.l0] at H
      by_cases c3 : (wrap64 (x5_1 + (a1.size : Int))) ≤ (a0.size : Int)
      · rw [if_pos c3] at H
        have c3b0 : decide ((wrap64 (x5_1 + (a1.size : Int))) ≤ (a0.size : Int)) = true := decide_eq_true c3
        clear c3
        by_cases c4 : 0 ≤ x5_1
        · rw [if_pos c4] at H
          have c4b0 := eq_true c4
          have c4b1 : decide (0 ≤ x5_1) = true := decide_eq_true c4
          clear c4
          by_cases c5 : x5_1 ≤ (wrap64 (x5_1 + (a1.size : Int)))
          · rw [if_pos c5] at H
            have c5b0 := eq_true c5
            have c5b1 : decide (x5_1 ≤ (wrap64 (x5_1 + (a1.size : Int)))) = true := decide_eq_true c5
            have c6b0 := eq_true (of_decide_eq_true (by first | (with_reducible assumption) | assumption) : (wrap64 (x5_1 + (a1.size : Int))) ≤ (a0.size : Int))
            by_cases c7 : (a0.extract (x5_1 : Int).toNat ((wrap64 (x5_1 + (a1.size : Int))) : Int).toNat).toList = a1.toList
            · rw [if_pos c7] at H
              have c7b0 : ((a0.extract (x5_1 : Int).toNat ((wrap64 (x5_1 + (a1.size : Int))) : Int).toNat).toList == a1.toList) = true := beq_iff_eq.mpr c7
              have c7b1 : ((a0.extract (x5_1 : Int).toNat ((wrap64 (x5_1 + (a1.size : Int))) : Int).toNat).toList != a1.toList) = false := bne_eq_false_iff_eq.mpr c7
              clear c7
              obtain rfl := Option.some.inj H
              go_wp2
              go_ret
              exact ⟨by first | rfl | (simp; done) | (simp [*]; done), by repeat (first | exact Drawn0.refl _ | apply Drawn0.step)⟩
            · rw [if_neg c7] at H
              have c7b0 : ((a0.extract (x5_1 : Int).toNat ((wrap64 (x5_1 + (a1.size : Int))) : Int).toNat).toList == a1.toList) = false := beq_eq_false_iff_ne.mpr c7
              have c7b1 : ((a0.extract (x5_1 : Int).toNat ((wrap64 (x5_1 + (a1.size : Int))) : Int).toNat).toList != a1.toList) = true := bne_iff_ne.mpr c7
              have H' := Aside0.mk H
              clear H
              go_wp2
              go_roundg k1
              case measure => have := HK1.out; omega
              case rel => exact ⟨(wrap64 (x5_1 + 1)), (by first | rfl | (simp; done) | (simp [*]; done)), H', ⟨by have := HK1.out; omega⟩, by repeat (first | exact Drawn0.refl _ | apply Drawn0.step)⟩
          · rw [if_neg c5] at H
            exact absurd H (by simp)
        · rw [if_neg c4] at H
          exact absurd H (by simp)
      · rw [if_neg c3] at H
        have c3b0 : decide ((wrap64 (x5_1 + (a1.size : Int))) ≤ (a0.size : Int)) = false := decide_eq_false c3
        clear c3
        obtain rfl := Option.some.inj H
        go_wp2
        go_ret
        exact ⟨by first | rfl | (simp; done) | (simp [*]; done), by repeat (first | exact Drawn0.refl _ | apply Drawn0.step)⟩

/-! ### transform_ParseGlobs: function 17 -/
def transform_ParseGlobs.f (k : Nat) (a0 : ByteArray) : Option (Bool × ByteArray) := (transform_zzIndex.f k a0 (⟨#[123]⟩ : ByteArray)).bind fun t111 => ((strings_LastIndex.f k a0 (⟨#[125]⟩ : ByteArray)).bind fun t112 => (if t111 ≥ 0 then (if t112 > t111 then (if 0 ≤ t111 then (if t111 ≤ (wrap64 (t112 + 1)) then (if (wrap64 (t112 + 1)) ≤ (a0.size : Int) then (some (true, a0.extract (t111 : Int).toNat ((wrap64 (t112 + 1)) : Int).toNat)) else (none)) else (none)) else (none)) else (some (false, (⟨#[]⟩ : ByteArray)))) else (some (false, (⟨#[]⟩ : ByteArray)))))
theorem transform_ParseGlobs.mono : ∀ a0 k, LeO (transform_ParseGlobs.f k a0) (transform_ParseGlobs.f (k + 1) a0) := by
  intro a0 k
  unfold transform_ParseGlobs.f
  repeat' first
      | (with_reducible exact strings_LastIndex.mono _ _ _)
      | (with_reducible exact transform_zzIndex.mono _ _ _)
      | (with_reducible exact LeO.refl _)
      | (with_reducible exact LeO.none _)
      | (with_reducible refine LeO.ite ?_ ?_)
      | (with_reducible refine LeO.bind ?_ (fun _ => ?_))
      | exact strings_LastIndex.mono _ _ _
      | exact transform_zzIndex.mono _ _ _
      | exact LeO.none _
      | refine LeO.ite ?_ ?_
      | refine LeO.bind ?_ (fun _ => ?_)
set_option maxHeartbeats 8000000 in
set_option maxRecDepth 100000 in
theorem transform_ParseGlobs.calls (k : Nat) (a0 : ByteArray) (r1 : Bool) (r2 : ByteArray) (w : World) (h : transform_ParseGlobs.f k a0 = some (r1, r2)) :
    Calls Try.prog 17 #[.string a0] w fun e w' => e = .returned (.tuple #[.bool r1, .string r2]) ∧ Drawn0 w w' := by
  have H : ((transform_zzIndex.f k a0 (⟨#[123]⟩ : ByteArray)).bind fun t111 => ((strings_LastIndex.f k a0 (⟨#[125]⟩ : ByteArray)).bind fun t112 => (if t111 ≥ 0 then (if t112 > t111 then (if 0 ≤ t111 then (if t111 ≤ (wrap64 (t112 + 1)) then (if (wrap64 (t112 + 1)) ≤ (a0.size : Int) then (some (true, a0.extract (t111 : Int).toNat ((wrap64 (t112 + 1)) : Int).toNat)) else (none)) else (none)) else (none)) else (some (false, (⟨#[]⟩ : ByteArray)))) else (some (false, (⟨#[]⟩ : ByteArray)))))) = some (r1, r2) := h
  clear h
  replace H := Option.bind_eq_some_iff.mp H
  obtain ⟨t111, A20, H⟩ := H
  replace H : ((strings_LastIndex.f k a0 (⟨#[125]⟩ : ByteArray)).bind fun t112 => (if t111 ≥ 0 then (if t112 > t111 then (if 0 ≤ t111 then (if t111 ≤ (wrap64 (t112 + 1)) then (if (wrap64 (t112 + 1)) ≤ (a0.size : Int) then (some (true, a0.extract (t111 : Int).toNat ((wrap64 (t112 + 1)) : Int).toNat)) else (none)) else (none)) else (none)) else (some (false, (⟨#[]⟩ : ByteArray)))) else (some (false, (⟨#[]⟩ : ByteArray))))) = some (r1, r2) := H
  have A2 := Aside0.mk A20
  clear A20
  replace H := Option.bind_eq_some_iff.mp H
  obtain ⟨t112, A30, H⟩ := H
  replace H : (if t111 ≥ 0 then (if t112 > t111 then (if 0 ≤ t111 then (if t111 ≤ (wrap64 (t112 + 1)) then (if (wrap64 (t112 + 1)) ≤ (a0.size : Int) then (some (true, a0.extract (t111 : Int).toNat ((wrap64 (t112 + 1)) : Int).toNat)) else (none)) else (none)) else (none)) else (some (false, (⟨#[]⟩ : ByteArray)))) else (some (false, (⟨#[]⟩ : ByteArray)))) = some (r1, r2) := H
  have A3 := Aside0.mk A30
  clear A30
  by_cases c4 : t111 ≥ 0
  · rw [if_pos c4] at H
    have c4b0 : decide (0 ≤ t111) = true := decide_eq_true c4
    clear c4
    by_cases c5 : t112 > t111
    · rw [if_pos c5] at H
      have c5b0 : decide (t111 < t112) = true := decide_eq_true c5
      clear c5
      by_cases c6 : 0 ≤ t111
      · rw [if_pos c6] at H
        have c6b0 := eq_true c6
        have c6b1 : decide (0 ≤ t111) = true := decide_eq_true c6
        clear c6
        by_cases c7 : t111 ≤ (wrap64 (t112 + 1))
        · rw [if_pos c7] at H
          have c7b0 := eq_true c7
          have c7b1 : decide (t111 ≤ (wrap64 (t112 + 1))) = true := decide_eq_true c7
          by_cases c8 : (wrap64 (t112 + 1)) ≤ (a0.size : Int)
          · rw [if_pos c8] at H
            have c8b0 := eq_true c8
            have c8b1 : decide ((wrap64 (t112 + 1)) ≤ (a0.size : Int)) = true := decide_eq_true c8
            simp only [Option.some.injEq, Prod.mk.injEq] at H
            obtain ⟨rfl, rfl⟩ := H
            go_enter Try.func17, Try.ntmps17
            go_wp2_with (first | (go_at_call 33; (with_reducible refine (transform_zzIndex.calls k a0 (⟨#[123]⟩ : ByteArray) t111 _ A2.out).mono ?_); rintro e w' ⟨rfl, ⟨nd, rfl⟩⟩; (try first | exact ⟨rfl, _, World.drewN_drewN _ _ _⟩ | exact ⟨rfl, _, Eq.trans (World.drewN_drewN _ _ _) (congrArg (World.drewN _) (Nat.add_assoc _ _ _))⟩)) | (go_at_call 32; (with_reducible refine (strings_LastIndex.calls k a0 (⟨#[125]⟩ : ByteArray) t112 _ A3.out).mono ?_); rintro e w' ⟨rfl, ⟨nd, rfl⟩⟩; (try first | exact ⟨rfl, _, World.drewN_drewN _ _ _⟩ | exact ⟨rfl, _, Eq.trans (World.drewN_drewN _ _ _) (congrArg (World.drewN _) (Nat.add_assoc _ _ _))⟩)))
            repeat (go_quiet (first | (go_at_call 33; (with_reducible refine (transform_zzIndex.calls k a0 (⟨#[123]⟩ : ByteArray) t111 _ A2.out).mono ?_); rintro e w' ⟨rfl, ⟨nd, rfl⟩⟩; (try first | exact ⟨rfl, _, World.drewN_drewN _ _ _⟩ | exact ⟨rfl, _, Eq.trans (World.drewN_drewN _ _ _) (congrArg (World.drewN _) (Nat.add_assoc _ _ _))⟩)) | (go_at_call 32; (with_reducible refine (strings_LastIndex.calls k a0 (⟨#[125]⟩ : ByteArray) t112 _ A3.out).mono ?_); rintro e w' ⟨rfl, ⟨nd, rfl⟩⟩; (try first | exact ⟨rfl, _, World.drewN_drewN _ _ _⟩ | exact ⟨rfl, _, Eq.trans (World.drewN_drewN _ _ _) (congrArg (World.drewN _) (Nat.add_assoc _ _ _))⟩))); try go_wp2_with (first | (go_at_call 33; (with_reducible refine (transform_zzIndex.calls k a0 (⟨#[123]⟩ : ByteArray) t111 _ A2.out).mono ?_); rintro e w' ⟨rfl, ⟨nd, rfl⟩⟩; (try first | exact ⟨rfl, _, World.drewN_drewN _ _ _⟩ | exact ⟨rfl, _, Eq.trans (World.drewN_drewN _ _ _) (congrArg (World.drewN _) (Nat.add_assoc _ _ _))⟩)) | (go_at_call 32; (with_reducible refine (strings_LastIndex.calls k a0 (⟨#[125]⟩ : ByteArray) t112 _ A3.out).mono ?_); rintro e w' ⟨rfl, ⟨nd, rfl⟩⟩; (try first | exact ⟨rfl, _, World.drewN_drewN _ _ _⟩ | exact ⟨rfl, _, Eq.trans (World.drewN_drewN _ _ _) (congrArg (World.drewN _) (Nat.add_assoc _ _ _))⟩))))
            go_ret2
            exact ⟨by first | rfl | (simp; done) | (simp [*]; done), by repeat (first | exact Drawn0.refl _ | apply Drawn0.step)⟩
          · rw [if_neg c8] at H
            exact absurd H (by simp)
        · rw [if_neg c7] at H
          exact absurd H (by simp)
      · rw [if_neg c6] at H
        exact absurd H (by simp)
    · rw [if_neg c5] at H
      have c5b0 : decide (t111 < t112) = false := decide_eq_false c5
      clear c5
      simp only [Option.some.injEq, Prod.mk.injEq] at H
      obtain ⟨rfl, rfl⟩ := H
      go_enter Try.func17, Try.ntmps17
      go_wp2_with (first | (go_at_call 33; (with_reducible refine (transform_zzIndex.calls k a0 (⟨#[123]⟩ : ByteArray) t111 _ A2.out).mono ?_); rintro e w' ⟨rfl, ⟨nd, rfl⟩⟩; (try first | exact ⟨rfl, _, World.drewN_drewN _ _ _⟩ | exact ⟨rfl, _, Eq.trans (World.drewN_drewN _ _ _) (congrArg (World.drewN _) (Nat.add_assoc _ _ _))⟩)) | (go_at_call 32; (with_reducible refine (strings_LastIndex.calls k a0 (⟨#[125]⟩ : ByteArray) t112 _ A3.out).mono ?_); rintro e w' ⟨rfl, ⟨nd, rfl⟩⟩; (try first | exact ⟨rfl, _, World.drewN_drewN _ _ _⟩ | exact ⟨rfl, _, Eq.trans (World.drewN_drewN _ _ _) (congrArg (World.drewN _) (Nat.add_assoc _ _ _))⟩)))
      repeat (go_quiet (first | (go_at_call 33; (with_reducible refine (transform_zzIndex.calls k a0 (⟨#[123]⟩ : ByteArray) t111 _ A2.out).mono ?_); rintro e w' ⟨rfl, ⟨nd, rfl⟩⟩; (try first | exact ⟨rfl, _, World.drewN_drewN _ _ _⟩ | exact ⟨rfl, _, Eq.trans (World.drewN_drewN _ _ _) (congrArg (World.drewN _) (Nat.add_assoc _ _ _))⟩)) | (go_at_call 32; (with_reducible refine (strings_LastIndex.calls k a0 (⟨#[125]⟩ : ByteArray) t112 _ A3.out).mono ?_); rintro e w' ⟨rfl, ⟨nd, rfl⟩⟩; (try first | exact ⟨rfl, _, World.drewN_drewN _ _ _⟩ | exact ⟨rfl, _, Eq.trans (World.drewN_drewN _ _ _) (congrArg (World.drewN _) (Nat.add_assoc _ _ _))⟩))); try go_wp2_with (first | (go_at_call 33; (with_reducible refine (transform_zzIndex.calls k a0 (⟨#[123]⟩ : ByteArray) t111 _ A2.out).mono ?_); rintro e w' ⟨rfl, ⟨nd, rfl⟩⟩; (try first | exact ⟨rfl, _, World.drewN_drewN _ _ _⟩ | exact ⟨rfl, _, Eq.trans (World.drewN_drewN _ _ _) (congrArg (World.drewN _) (Nat.add_assoc _ _ _))⟩)) | (go_at_call 32; (with_reducible refine (strings_LastIndex.calls k a0 (⟨#[125]⟩ : ByteArray) t112 _ A3.out).mono ?_); rintro e w' ⟨rfl, ⟨nd, rfl⟩⟩; (try first | exact ⟨rfl, _, World.drewN_drewN _ _ _⟩ | exact ⟨rfl, _, Eq.trans (World.drewN_drewN _ _ _) (congrArg (World.drewN _) (Nat.add_assoc _ _ _))⟩))))
      go_ret2
      exact ⟨by first | rfl | (simp; done) | (simp [*]; done), by repeat (first | exact Drawn0.refl _ | apply Drawn0.step)⟩
  · rw [if_neg c4] at H
    have c4b0 : decide (0 ≤ t111) = false := decide_eq_false c4
    clear c4
    simp only [Option.some.injEq, Prod.mk.injEq] at H
    obtain ⟨rfl, rfl⟩ := H
    go_enter Try.func17, Try.ntmps17
    go_wp2_with (first | (go_at_call 33; (with_reducible refine (transform_zzIndex.calls k a0 (⟨#[123]⟩ : ByteArray) t111 _ A2.out).mono ?_); rintro e w' ⟨rfl, ⟨nd, rfl⟩⟩; (try first | exact ⟨rfl, _, World.drewN_drewN _ _ _⟩ | exact ⟨rfl, _, Eq.trans (World.drewN_drewN _ _ _) (congrArg (World.drewN _) (Nat.add_assoc _ _ _))⟩)) | (go_at_call 32; (with_reducible refine (strings_LastIndex.calls k a0 (⟨#[125]⟩ : ByteArray) t112 _ A3.out).mono ?_); rintro e w' ⟨rfl, ⟨nd, rfl⟩⟩; (try first | exact ⟨rfl, _, World.drewN_drewN _ _ _⟩ | exact ⟨rfl, _, Eq.trans (World.drewN_drewN _ _ _) (congrArg (World.drewN _) (Nat.add_assoc _ _ _))⟩)))
    repeat (go_quiet (first | (go_at_call 33; (with_reducible refine (transform_zzIndex.calls k a0 (⟨#[123]⟩ : ByteArray) t111 _ A2.out).mono ?_); rintro e w' ⟨rfl, ⟨nd, rfl⟩⟩; (try first | exact ⟨rfl, _, World.drewN_drewN _ _ _⟩ | exact ⟨rfl, _, Eq.trans (World.drewN_drewN _ _ _) (congrArg (World.drewN _) (Nat.add_assoc _ _ _))⟩)) | (go_at_call 32; (with_reducible refine (strings_LastIndex.calls k a0 (⟨#[125]⟩ : ByteArray) t112 _ A3.out).mono ?_); rintro e w' ⟨rfl, ⟨nd, rfl⟩⟩; (try first | exact ⟨rfl, _, World.drewN_drewN _ _ _⟩ | exact ⟨rfl, _, Eq.trans (World.drewN_drewN _ _ _) (congrArg (World.drewN _) (Nat.add_assoc _ _ _))⟩))); try go_wp2_with (first | (go_at_call 33; (with_reducible refine (transform_zzIndex.calls k a0 (⟨#[123]⟩ : ByteArray) t111 _ A2.out).mono ?_); rintro e w' ⟨rfl, ⟨nd, rfl⟩⟩; (try first | exact ⟨rfl, _, World.drewN_drewN _ _ _⟩ | exact ⟨rfl, _, Eq.trans (World.drewN_drewN _ _ _) (congrArg (World.drewN _) (Nat.add_assoc _ _ _))⟩)) | (go_at_call 32; (with_reducible refine (strings_LastIndex.calls k a0 (⟨#[125]⟩ : ByteArray) t112 _ A3.out).mono ?_); rintro e w' ⟨rfl, ⟨nd, rfl⟩⟩; (try first | exact ⟨rfl, _, World.drewN_drewN _ _ _⟩ | exact ⟨rfl, _, Eq.trans (World.drewN_drewN _ _ _) (congrArg (World.drewN _) (Nat.add_assoc _ _ _))⟩))))
    go_ret2
    exact ⟨by first | rfl | (simp; done) | (simp [*]; done), by repeat (first | exact Drawn0.refl _ | apply Drawn0.step)⟩

/-! ### impl_BracketsFind: function 9 -/
def impl_BracketsFind.f (k : Nat) (a0 : ByteArray) : Option (Bool × ByteArray) := (transform_ParseGlobs.f k a0).bind fun bt113 => (some (bt113.1, bt113.2))
theorem impl_BracketsFind.mono : ∀ a0 k, LeO (impl_BracketsFind.f k a0) (impl_BracketsFind.f (k + 1) a0) := by
  intro a0 k
  unfold impl_BracketsFind.f
  repeat' first
      | (with_reducible exact transform_ParseGlobs.mono _ _)
      | (with_reducible exact LeO.refl _)
      | (with_reducible exact LeO.none _)
      | (with_reducible refine LeO.ite ?_ ?_)
      | (with_reducible refine LeO.bind ?_ (fun _ => ?_))
      | exact transform_ParseGlobs.mono _ _
      | exact LeO.none _
      | refine LeO.ite ?_ ?_
      | refine LeO.bind ?_ (fun _ => ?_)
set_option maxHeartbeats 8000000 in
set_option maxRecDepth 100000 in
theorem impl_BracketsFind.calls (k : Nat) (a0 : ByteArray) (r1 : Bool) (r2 : ByteArray) (w : World) (h : impl_BracketsFind.f k a0 = some (r1, r2)) :
    Calls Try.prog 9 #[.string a0] w fun e w' => e = .returned (.tuple #[.bool r1, .string r2]) ∧ Drawn0 w w' := by
  have H : ((transform_ParseGlobs.f k a0).bind fun bt113 => (some (bt113.1, bt113.2))) = some (r1, r2) := h
  clear h
  replace H := Option.bind_eq_some_iff.mp H
  obtain ⟨⟨t113, t114⟩, A20, H⟩ := H
  replace H : (some (t113, t114)) = some (r1, r2) := H
  have A2 := Aside0.mk A20
  clear A20
  simp only [Option.some.injEq, Prod.mk.injEq] at H
  obtain ⟨rfl, rfl⟩ := H
  go_enter Try.func9, Try.ntmps9
  go_wp2_with (first | ((with_reducible refine gate_callee (f := 17) rfl ?_); refine goesL_ (some 5) rfl rfl Try.func17 (by kernel_rfl) rfl #[.string a0] rfl (by (try simp only [List.map_toArray, List.map_cons, List.map_nil]); first | done | rfl | (simp only [List.length_drop, List.length_take]; rfl)) ?_; (with_reducible refine (transform_ParseGlobs.calls k a0 t113 t114 _ A2.out).mono ?_); rintro e w' ⟨rfl, ⟨nd, rfl⟩⟩; refine ⟨_, rfl, ?_⟩))
  go_ret2
  exact ⟨by first | rfl | (simp; done) | (simp [*]; done), by repeat (first | exact Drawn0.refl _ | apply Drawn0.step)⟩

/-! ### spec_Brackets: function 10 -/
mutual
def spec_Brackets.l0 : Nat → ByteArray → Bool → ByteArray → Int → Int → Option (Bool × ByteArray)
  | 0, _, _, _, _, _ => none
  | k + 1, x0, x2, x3, x4, x5 => if x5 < (x0.size : Int) then (if 0 ≤ x5 then (if (bt x0 x5) = 123 then (spec_Brackets.j1 k x0 x2 x3 x4 x5 (decide (x4 < 0))) else (spec_Brackets.j1 k x0 x2 x3 x4 x5 false)) else (none)) else (some (x2, x3))
def spec_Brackets.j1 : Nat → ByteArray → Bool → ByteArray → Int → Int → Bool → Option (Bool × ByteArray)
  | 0, _, _, _, _, _, _ => none
  | k + 1, x0, x2, x3, x4, x5, x19 => if x19 = true then (if 0 ≤ x5 then (if x5 < (x0.size : Int) then (if (bt x0 x5) = 125 then (if x5 ≤ (wrap64 (x5 + 1)) then (if (wrap64 (x5 + 1)) ≤ (x0.size : Int) then (spec_Brackets.l0 k x0 true (x0.extract (x5 : Int).toNat ((wrap64 (x5 + 1)) : Int).toNat) x5 (wrap64 (x5 + 1))) else (none)) else (none)) else (spec_Brackets.l0 k x0 x2 x3 x5 (wrap64 (x5 + 1)))) else (none)) else (none)) else (if 0 ≤ x5 then (if x5 < (x0.size : Int) then (if (bt x0 x5) = 125 then (if x4 ≥ 0 then (if 0 ≤ x4 then (if x4 ≤ (wrap64 (x5 + 1)) then (if (wrap64 (x5 + 1)) ≤ (x0.size : Int) then (spec_Brackets.l0 k x0 true (x0.extract (x4 : Int).toNat ((wrap64 (x5 + 1)) : Int).toNat) x4 (wrap64 (x5 + 1))) else (none)) else (none)) else (none)) else (spec_Brackets.l0 k x0 x2 x3 x4 (wrap64 (x5 + 1)))) else (spec_Brackets.l0 k x0 x2 x3 x4 (wrap64 (x5 + 1)))) else (none)) else (none))
end
def spec_Brackets.f (k : Nat) (a0 : ByteArray) : Option (Bool × ByteArray) := spec_Brackets.l0 k a0 false (⟨#[]⟩ : ByteArray) (-1) 0
theorem spec_Brackets.mono_l : ∀ k, (∀ y0 y1 y2 y3 y4, LeO (spec_Brackets.l0 k y0 y1 y2 y3 y4) (spec_Brackets.l0 (k + 1) y0 y1 y2 y3 y4)) ∧ (∀ y0 y1 y2 y3 y4 y5, LeO (spec_Brackets.j1 k y0 y1 y2 y3 y4 y5) (spec_Brackets.j1 (k + 1) y0 y1 y2 y3 y4 y5))
  | 0 => ⟨fun _ _ _ _ _ r h => by simp [spec_Brackets.l0] at h, fun _ _ _ _ _ _ r h => by simp [spec_Brackets.j1] at h⟩
  | k + 1 => by
    obtain ⟨ih0, ih1⟩ := spec_Brackets.mono_l k
    refine ⟨?_, ?_⟩
    · intro y0 y1 y2 y3 y4
      unfold spec_Brackets.l0
      repeat' first
      | (with_reducible exact ih0 _ _ _ _ _)
      | (with_reducible exact ih1 _ _ _ _ _ _)
      | (with_reducible exact LeO.refl _)
      | (with_reducible exact LeO.none _)
      | (with_reducible refine LeO.ite ?_ ?_)
      | (with_reducible refine LeO.bind ?_ (fun _ => ?_))
      | exact ih0 _ _ _ _ _
      | exact ih1 _ _ _ _ _ _
      | exact LeO.none _
      | refine LeO.ite ?_ ?_
      | refine LeO.bind ?_ (fun _ => ?_)
    · intro y0 y1 y2 y3 y4 y5
      unfold spec_Brackets.j1
      repeat' first
      | (with_reducible exact ih0 _ _ _ _ _)
      | (with_reducible exact ih1 _ _ _ _ _ _)
      | (with_reducible exact LeO.refl _)
      | (with_reducible exact LeO.none _)
      | (with_reducible refine LeO.ite ?_ ?_)
      | (with_reducible refine LeO.bind ?_ (fun _ => ?_))
      | exact ih0 _ _ _ _ _
      | exact ih1 _ _ _ _ _ _
      | exact LeO.none _
      | refine LeO.ite ?_ ?_
      | refine LeO.bind ?_ (fun _ => ?_)
theorem spec_Brackets.mono : ∀ a0 k, LeO (spec_Brackets.f k a0) (spec_Brackets.f (k + 1) a0) := by
  intro a0 k
  obtain ⟨ih0, ih1⟩ := spec_Brackets.mono_l k
  unfold spec_Brackets.f
  repeat' first
      | (with_reducible exact ih0 _ _ _ _ _)
      | (with_reducible exact ih1 _ _ _ _ _ _)
      | (with_reducible exact LeO.refl _)
      | (with_reducible exact LeO.none _)
      | (with_reducible refine LeO.ite ?_ ?_)
      | (with_reducible refine LeO.bind ?_ (fun _ => ?_))
      | exact ih0 _ _ _ _ _
      | exact ih1 _ _ _ _ _ _
      | exact LeO.none _
      | refine LeO.ite ?_ ?_
      | refine LeO.bind ?_ (fun _ => ?_)
set_option maxHeartbeats 8000000 in
set_option maxRecDepth 100000 in
theorem spec_Brackets.calls (k : Nat) (a0 : ByteArray) (r1 : Bool) (r2 : ByteArray) (w : World) (h : spec_Brackets.f k a0 = some (r1, r2)) :
    Calls Try.prog 10 #[.string a0] w fun e w' => e = .returned (.tuple #[.bool r1, .string r2]) ∧ Drawn0 w w' := by
  have H : (spec_Brackets.l0 k a0 false (⟨#[]⟩ : ByteArray) (-1) 0) = some (r1, r2) := h
  clear h
  have H' := Aside0.mk H
  clear H
  go_enter Try.func10, Try.ntmps10
  go_wp2
  repeat (go_quiet (fail); try go_wp2)
  go_loopg [2, 3, 4, 5] k (fun kq v2 v3 v4 v5 w' => ∃ (x2_1 : Bool) (x3_1 : ByteArray) (x4_1 : Int) (x5_1 : Int), v2 = .bool x2_1 ∧ v3 = .string x3_1 ∧ v4 = .int .i64 x4_1 ∧ v5 = .int .i64 x5_1 ∧ Aside0 (spec_Brackets.l0 kq a0 x2_1 x3_1 x4_1 x5_1 = some (r1, r2)) ∧ Aside0 (kq ≤ k) ∧ Drawn0 w w')
  case atStart => exact ⟨(false), ((⟨#[]⟩ : ByteArray)), ((-1)), (0), (by first | rfl | (simp; done) | (simp [*]; done)), (by first | rfl | (simp; done) | (simp [*]; done)), (by first | rfl | (simp; done) | (simp [*]; done)), (by first | rfl | (simp; done) | (simp [*]; done)), H', ⟨Nat.le_refl _⟩, by repeat (first | exact Drawn0.refl _ | apply Drawn0.step)⟩
  case round =>
    clear H'
    try clear c1
    obtain ⟨x2_1, x3_1, x4_1, x5_1, rfl, rfl, rfl, rfl, HA, HK1, ⟨m1, rfl⟩⟩ := hrel
    cases gk with
    | zero => exact absurd HA.out (by simp [spec_Brackets.l0])
    | succ k1 =>
      have H := HA.out
      clear HA
      simp only [spec_Brackets.l0] at H
      by_cases c2 : x5_1 < (a0.size : Int)
      · rw [if_pos c2] at H
        have c2b0 : decide (x5_1 < (a0.size : Int)) = true := decide_eq_true c2
        clear c2
        have HC3 := Aside0.mk H
        clear H
        go_upto_region 5 with (fail)
        repeat (go_quiet (fail); go_upto_region 5 with (fail))
        go_cut [19] (fun v19 wc => ∃ (kq : Nat) (x19_2 : Bool), v19 = .bool x19_2 ∧ Aside0 (spec_Brackets.j1 kq a0 x2_1 x3_1 x4_1 x5_1 x19_2 = some (r1, r2)) ∧ Aside0 (kq ≤ k1) ∧ Drawn0 w wc)
        case first =>
          have H := HC3.out
          clear HC3
          by_cases c4 : 0 ≤ x5_1
          · rw [if_pos c4] at H
            have c4b0 : decide (0 ≤ x5_1) = true := decide_eq_true c4
            clear c4
            (first | rw [c4b0] | (simp only [i64_w, i32_w]; rw [c4b0]) | skip)
            by_cases c6 : (bt a0 x5_1) = 123
            · rw [if_pos c6] at H
              have c6b0 : ((bt a0 x5_1) == 123) = true := beq_iff_eq.mpr c6
              have c6b1 : ((bt a0 x5_1) != 123) = false := bne_eq_false_iff_eq.mpr c6
              clear c6
              have H' := Aside0.mk H
              clear H
              have p5 : 0 ≤ (x5_1 : Int) := of_decide_eq_true (by first | (with_reducible assumption) | assumption)
              have q5 : x5_1 < (a0.size : Int) := of_decide_eq_true (by first | (with_reducible assumption) | assumption)
              have hx5 := bt_at a0 x5_1
              replace p5 := eq_true p5
              replace q5 := eq_true q5
              go_wp2
              repeat (go_quiet (fail); try go_wp2)
              go_meet
              case rel => exact ⟨_, (decide (x4_1 < 0)), (by first | rfl | (simp; done) | (simp [*]; done)), H', ⟨by have := HK1.out; first | omega | exact Nat.le_refl _⟩, by repeat (first | exact Drawn0.refl _ | apply Drawn0.step)⟩
            · rw [if_neg c6] at H
              have c6b0 : ((bt a0 x5_1) == 123) = false := beq_eq_false_iff_ne.mpr c6
              have c6b1 : ((bt a0 x5_1) != 123) = true := bne_iff_ne.mpr c6
              have H' := Aside0.mk H
              clear H
              have p5 : 0 ≤ (x5_1 : Int) := of_decide_eq_true (by first | (with_reducible assumption) | assumption)
              have q5 : x5_1 < (a0.size : Int) := of_decide_eq_true (by first | (with_reducible assumption) | assumption)
              have hx5 := bt_at a0 x5_1
              replace p5 := eq_true p5
              replace q5 := eq_true q5
              go_wp2
              repeat (go_quiet (fail); try go_wp2)
              go_meet
              case rel => exact ⟨_, (false), (by first | rfl | (simp; done) | (simp [*]; done)), H', ⟨by have := HK1.out; first | omega | exact Nat.le_refl _⟩, by repeat (first | exact Drawn0.refl _ | apply Drawn0.step)⟩
          · rw [if_neg c4] at H
            exact absurd H (by simp)
        case rest =>
          clear HC3
          try clear c1
          try clear c2
          try clear c2b0
          try clear p2
          try clear c4
          try clear c4b0
          try clear p5
          try clear q5
          try clear hx5
          try clear c6
          try clear c6b0
          try clear c6b1
          try clear p5
          try clear q5
          obtain ⟨kq, x19_2, rfl, HA, HJ2, ⟨mc2, rfl⟩⟩ := hcut
          cases kq with
          | zero => exact absurd HA.out (by simp [spec_Brackets.j1])
          | succ kj2 =>
            have H := HA.out
            clear HA
            simp only [spec_Brackets.j1] at H
            by_cases c7 : x19_2 = true
            · subst c7
              have H1 : (if 0 ≤ x5_1 then (if x5_1 < (a0.size : Int) then (if (bt a0 x5_1) = 125 then (if x5_1 ≤ (wrap64 (x5_1 + 1)) then (if (wrap64 (x5_1 + 1)) ≤ (a0.size : Int) then (spec_Brackets.l0 kj2 a0 true (a0.extract (x5_1 : Int).toNat ((wrap64 (x5_1 + 1)) : Int).toNat) x5_1 (wrap64 (x5_1 + 1))) else (none)) else (none)) else (spec_Brackets.l0 kj2 a0 x2_1 x3_1 x5_1 (wrap64 (x5_1 + 1)))) else (none)) else (none)) = some (r1, r2) := by rw [if_pos rfl] at H; exact H
              clear H
              have H := H1
              clear H1
              by_cases c8 : 0 ≤ x5_1
              · rw [if_pos c8] at H
                have c8b0 : decide (0 ≤ x5_1) = true := decide_eq_true c8
                clear c8
                by_cases c9 : x5_1 < (a0.size : Int)
                · rw [if_pos c9] at H
                  have c9b0 : decide (x5_1 < (a0.size : Int)) = true := decide_eq_true c9
                  clear c9
                  by_cases c11 : (bt a0 x5_1) = 125
                  · rw [if_pos c11] at H
                    have c11b0 : ((bt a0 x5_1) == 125) = true := beq_iff_eq.mpr c11
                    have c11b1 : ((bt a0 x5_1) != 125) = false := bne_eq_false_iff_eq.mpr c11
                    clear c11
                    have c12b0 := eq_true (of_decide_eq_true (by first | (with_reducible assumption) | assumption) : 0 ≤ x5_1)
                    by_cases c13 : x5_1 ≤ (wrap64 (x5_1 + 1))
                    · rw [if_pos c13] at H
                      have c13b0 := eq_true c13
                      have c13b1 : decide (x5_1 ≤ (wrap64 (x5_1 + 1))) = true := decide_eq_true c13
                      by_cases c14 : (wrap64 (x5_1 + 1)) ≤ (a0.size : Int)
                      · rw [if_pos c14] at H
                        have c14b0 := eq_true c14
                        have c14b1 : decide ((wrap64 (x5_1 + 1)) ≤ (a0.size : Int)) = true := decide_eq_true c14
                        have H' := Aside0.mk H
                        clear H
                        have p10 : 0 ≤ (x5_1 : Int) := of_decide_eq_true (by first | (with_reducible assumption) | assumption)
                        have q10 : x5_1 < (a0.size : Int) := of_decide_eq_true (by first | (with_reducible assumption) | assumption)
                        have hx10 := bt_at a0 x5_1
                        replace p10 := eq_true p10
                        replace q10 := eq_true q10
                        go_wp2
                        repeat (go_quiet (fail); try go_wp2)
                        go_roundg kj2
                        case measure => have := HK1.out; have := HJ2.out; omega
                        case rel => exact ⟨(true), (a0.extract (x5_1 : Int).toNat ((wrap64 (x5_1 + 1)) : Int).toNat), (x5_1), (wrap64 (x5_1 + 1)), (by first | rfl | (simp; done) | (simp [*]; done)), (by first | rfl | (simp; done) | (simp [*]; done)), (by first | rfl | (simp; done) | (simp [*]; done)), (by first | rfl | (simp; done) | (simp [*]; done)), H', ⟨by have := HK1.out; have := HJ2.out; omega⟩, by repeat (first | exact Drawn0.refl _ | apply Drawn0.step)⟩
                      · rw [if_neg c14] at H
                        exact absurd H (by simp)
                    · rw [if_neg c13] at H
                      exact absurd H (by simp)
                  · rw [if_neg c11] at H
                    have c11b0 : ((bt a0 x5_1) == 125) = false := beq_eq_false_iff_ne.mpr c11
                    have c11b1 : ((bt a0 x5_1) != 125) = true := bne_iff_ne.mpr c11
                    have H' := Aside0.mk H
                    clear H
                    have p10 : 0 ≤ (x5_1 : Int) := of_decide_eq_true (by first | (with_reducible assumption) | assumption)
                    have q10 : x5_1 < (a0.size : Int) := of_decide_eq_true (by first | (with_reducible assumption) | assumption)
                    have hx10 := bt_at a0 x5_1
                    replace p10 := eq_true p10
                    replace q10 := eq_true q10
                    go_wp2
                    repeat (go_quiet (fail); try go_wp2)
                    go_roundg kj2
                    case measure => have := HK1.out; have := HJ2.out; omega
                    case rel => exact ⟨(x2_1), (x3_1), (x5_1), (wrap64 (x5_1 + 1)), (by first | rfl | (simp; done) | (simp [*]; done)), (by first | rfl | (simp; done) | (simp [*]; done)), (by first | rfl | (simp; done) | (simp [*]; done)), (by first | rfl | (simp; done) | (simp [*]; done)), H', ⟨by have := HK1.out; have := HJ2.out; omega⟩, by repeat (first | exact Drawn0.refl _ | apply Drawn0.step)⟩
                · rw [if_neg c9] at H
                  exact absurd H (by simp)
              · rw [if_neg c8] at H
                exact absurd H (by simp)
            · replace c7 := Bool.eq_false_iff.mpr c7
              subst c7
              have H1 : (if 0 ≤ x5_1 then (if x5_1 < (a0.size : Int) then (if (bt a0 x5_1) = 125 then (if x4_1 ≥ 0 then (if 0 ≤ x4_1 then (if x4_1 ≤ (wrap64 (x5_1 + 1)) then (if (wrap64 (x5_1 + 1)) ≤ (a0.size : Int) then (spec_Brackets.l0 kj2 a0 true (a0.extract (x4_1 : Int).toNat ((wrap64 (x5_1 + 1)) : Int).toNat) x4_1 (wrap64 (x5_1 + 1))) else (none)) else (none)) else (none)) else (spec_Brackets.l0 kj2 a0 x2_1 x3_1 x4_1 (wrap64 (x5_1 + 1)))) else (spec_Brackets.l0 kj2 a0 x2_1 x3_1 x4_1 (wrap64 (x5_1 + 1)))) else (none)) else (none)) = some (r1, r2) := by rw [if_neg (show ¬ (false = true) by decide)] at H; exact H
              clear H
              have H := H1
              clear H1
              by_cases c15 : 0 ≤ x5_1
              · rw [if_pos c15] at H
                have c15b0 : decide (0 ≤ x5_1) = true := decide_eq_true c15
                clear c15
                by_cases c16 : x5_1 < (a0.size : Int)
                · rw [if_pos c16] at H
                  have c16b0 : decide (x5_1 < (a0.size : Int)) = true := decide_eq_true c16
                  clear c16
                  by_cases c18 : (bt a0 x5_1) = 125
                  · rw [if_pos c18] at H
                    have c18b0 : ((bt a0 x5_1) == 125) = true := beq_iff_eq.mpr c18
                    have c18b1 : ((bt a0 x5_1) != 125) = false := bne_eq_false_iff_eq.mpr c18
                    clear c18
                    by_cases c19 : x4_1 ≥ 0
                    · rw [if_pos c19] at H
                      have c19b0 : decide (0 ≤ x4_1) = true := decide_eq_true c19
                      clear c19
                      by_cases c20 : 0 ≤ x4_1
                      · rw [if_pos c20] at H
                        have c20b0 := eq_true c20
                        have c20b1 : decide (0 ≤ x4_1) = true := decide_eq_true c20
                        clear c20
                        by_cases c21 : x4_1 ≤ (wrap64 (x5_1 + 1))
                        · rw [if_pos c21] at H
                          have c21b0 := eq_true c21
                          have c21b1 : decide (x4_1 ≤ (wrap64 (x5_1 + 1))) = true := decide_eq_true c21
                          by_cases c22 : (wrap64 (x5_1 + 1)) ≤ (a0.size : Int)
                          · rw [if_pos c22] at H
                            have c22b0 := eq_true c22
                            have c22b1 : decide ((wrap64 (x5_1 + 1)) ≤ (a0.size : Int)) = true := decide_eq_true c22
                            have H' := Aside0.mk H
                            clear H
                            have p17 : 0 ≤ (x5_1 : Int) := of_decide_eq_true (by first | (with_reducible assumption) | assumption)
                            have q17 : x5_1 < (a0.size : Int) := of_decide_eq_true (by first | (with_reducible assumption) | assumption)
                            have hx17 := bt_at a0 x5_1
                            replace p17 := eq_true p17
                            replace q17 := eq_true q17
                            go_wp2
                            repeat (go_quiet (fail); try go_wp2)
                            go_roundg kj2
                            case measure => have := HK1.out; have := HJ2.out; omega
                            case rel => exact ⟨(true), (a0.extract (x4_1 : Int).toNat ((wrap64 (x5_1 + 1)) : Int).toNat), (x4_1), (wrap64 (x5_1 + 1)), (by first | rfl | (simp; done) | (simp [*]; done)), (by first | rfl | (simp; done) | (simp [*]; done)), (by first | rfl | (simp; done) | (simp [*]; done)), (by first | rfl | (simp; done) | (simp [*]; done)), H', ⟨by have := HK1.out; have := HJ2.out; omega⟩, by repeat (first | exact Drawn0.refl _ | apply Drawn0.step)⟩
                          · rw [if_neg c22] at H
                            exact absurd H (by simp)
                        · rw [if_neg c21] at H
                          exact absurd H (by simp)
                      · rw [if_neg c20] at H
                        exact absurd H (by simp)
                    · rw [if_neg c19] at H
                      have c19b0 : decide (0 ≤ x4_1) = false := decide_eq_false c19
                      clear c19
                      have H' := Aside0.mk H
                      clear H
                      have p17 : 0 ≤ (x5_1 : Int) := of_decide_eq_true (by first | (with_reducible assumption) | assumption)
                      have q17 : x5_1 < (a0.size : Int) := of_decide_eq_true (by first | (with_reducible assumption) | assumption)
                      have hx17 := bt_at a0 x5_1
                      replace p17 := eq_true p17
                      replace q17 := eq_true q17
                      go_wp2
                      repeat (go_quiet (fail); try go_wp2)
                      go_roundg kj2
                      case measure => have := HK1.out; have := HJ2.out; omega
                      case rel => exact ⟨(x2_1), (x3_1), (x4_1), (wrap64 (x5_1 + 1)), (by first | rfl | (simp; done) | (simp [*]; done)), (by first | rfl | (simp; done) | (simp [*]; done)), (by first | rfl | (simp; done) | (simp [*]; done)), (by first | rfl | (simp; done) | (simp [*]; done)), H', ⟨by have := HK1.out; have := HJ2.out; omega⟩, by repeat (first | exact Drawn0.refl _ | apply Drawn0.step)⟩
                  · rw [if_neg c18] at H
                    have c18b0 : ((bt a0 x5_1) == 125) = false := beq_eq_false_iff_ne.mpr c18
                    have c18b1 : ((bt a0 x5_1) != 125) = true := bne_iff_ne.mpr c18
                    have H' := Aside0.mk H
                    clear H
                    have p17 : 0 ≤ (x5_1 : Int) := of_decide_eq_true (by first | (with_reducible assumption) | assumption)
                    have q17 : x5_1 < (a0.size : Int) := of_decide_eq_true (by first | (with_reducible assumption) | assumption)
                    have hx17 := bt_at a0 x5_1
                    replace p17 := eq_true p17
                    replace q17 := eq_true q17
                    go_wp2
                    repeat (go_quiet (fail); try go_wp2)
                    go_roundg kj2
                    case measure => have := HK1.out; have := HJ2.out; omega
                    case rel => exact ⟨(x2_1), (x3_1), (x4_1), (wrap64 (x5_1 + 1)), (by first | rfl | (simp; done) | (simp [*]; done)), (by first | rfl | (simp; done) | (simp [*]; done)), (by first | rfl | (simp; done) | (simp [*]; done)), (by first | rfl | (simp; done) | (simp [*]; done)), H', ⟨by have := HK1.out; have := HJ2.out; omega⟩, by repeat (first | exact Drawn0.refl _ | apply Drawn0.step)⟩
                · rw [if_neg c16] at H
                  exact absurd H (by simp)
              · rw [if_neg c15] at H
                exact absurd H (by simp)
      · rw [if_neg c2] at H
        have c2b0 : decide (x5_1 < (a0.size : Int)) = false := decide_eq_false c2
        clear c2
        simp only [Option.some.injEq, Prod.mk.injEq] at H
        obtain ⟨rfl, rfl⟩ := H
        go_wp2
        repeat (go_quiet (fail); try go_wp2)
        go_ret2
        exact ⟨by first | rfl | (simp; done) | (simp [*]; done), by repeat (first | exact Drawn0.refl _ | apply Drawn0.step)⟩

/-! ### laws_FnBracketsFind: function 4 -/
def laws_FnBracketsFind.f (k : Nat) (a0 : ByteArray) : Option (Bool) := if (a0.size : Int) > 2147483647 then (some true) else (if (a0.size : Int) > 5000 then (some true) else ((impl_BracketsFind.f k a0).bind fun bt115 => ((spec_Brackets.f k a0).bind fun bt117 => ((impl_BracketsFind.f k (⟨#[97, 123, 98, 125, 123, 99, 125, 100]⟩ : ByteArray)).bind fun bt119 => (if (bt115.1 == bt117.1) = true then (if bt115.2.toList = bt117.2.toList then (if bt119.1 = true then (some (bt119.2.toList == ([123, 98, 125, 123, 99, 125] : List UInt8))) else (some false)) else (some false)) else (some false))))))
theorem laws_FnBracketsFind.mono : ∀ a0 k, LeO (laws_FnBracketsFind.f k a0) (laws_FnBracketsFind.f (k + 1) a0) := by
  intro a0 k
  unfold laws_FnBracketsFind.f
  repeat' first
      | (with_reducible exact impl_BracketsFind.mono _ _)
      | (with_reducible exact spec_Brackets.mono _ _)
      | (with_reducible exact LeO.refl _)
      | (with_reducible exact LeO.none _)
      | (with_reducible refine LeO.ite ?_ ?_)
      | (with_reducible refine LeO.bind ?_ (fun _ => ?_))
      | exact impl_BracketsFind.mono _ _
      | exact spec_Brackets.mono _ _
      | exact LeO.none _
      | refine LeO.ite ?_ ?_
      | refine LeO.bind ?_ (fun _ => ?_)
set_option maxHeartbeats 8000000 in
set_option maxRecDepth 100000 in
theorem laws_FnBracketsFind.calls (k : Nat) (a0 : ByteArray) (r : Bool) (w : World) (h : laws_FnBracketsFind.f k a0 = some r) :
    Calls Try.prog 4 #[.string a0] w fun e w' => e = .returned (.bool r) ∧ Drawn0 w w' := by
  have H : (if (a0.size : Int) > 2147483647 then (some true) else (if (a0.size : Int) > 5000 then (some true) else ((impl_BracketsFind.f k a0).bind fun bt115 => ((spec_Brackets.f k a0).bind fun bt117 => ((impl_BracketsFind.f k (⟨#[97, 123, 98, 125, 123, 99, 125, 100]⟩ : ByteArray)).bind fun bt119 => (if (bt115.1 == bt117.1) = true then (if bt115.2.toList = bt117.2.toList then (if bt119.1 = true then (some (bt119.2.toList == ([123, 98, 125, 123, 99, 125] : List UInt8))) else (some false)) else (some false)) else (some false))))))) = some r := h
  clear h
  by_cases c2 : (a0.size : Int) > 2147483647
  · rw [if_pos c2] at H
    have c2b0 : decide (2147483647 < (a0.size : Int)) = true := decide_eq_true c2
    have c2b1 : decide (2147483647 < a0.size) = true := decide_eq_true (by omega)
    clear c2
    obtain rfl := Option.some.inj H
    go_enter Try.func4, Try.ntmps4
    go_wp2
    go_ret
    exact ⟨by first | rfl | (simp; done) | (simp [*]; done), by repeat (first | exact Drawn0.refl _ | apply Drawn0.step)⟩
  · rw [if_neg c2] at H
    have c2b0 : decide (2147483647 < (a0.size : Int)) = false := decide_eq_false c2
    have c2b1 : decide (2147483647 < a0.size) = false := decide_eq_false (by omega)
    clear c2
    by_cases c3 : (a0.size : Int) > 5000
    · rw [if_pos c3] at H
      have c3b0 : decide (5000 < (a0.size : Int)) = true := decide_eq_true c3
      have c3b1 : decide (5000 < a0.size) = true := decide_eq_true (by omega)
      clear c3
      obtain rfl := Option.some.inj H
      go_enter Try.func4, Try.ntmps4
      go_wp2
      go_ret
      exact ⟨by first | rfl | (simp; done) | (simp [*]; done), by repeat (first | exact Drawn0.refl _ | apply Drawn0.step)⟩
    · rw [if_neg c3] at H
      have c3b0 : decide (5000 < (a0.size : Int)) = false := decide_eq_false c3
      have c3b1 : decide (5000 < a0.size) = false := decide_eq_false (by omega)
      clear c3
      replace H := Option.bind_eq_some_iff.mp H
      obtain ⟨⟨t115, t116⟩, A40, H⟩ := H
      replace H : ((spec_Brackets.f k a0).bind fun bt117 => ((impl_BracketsFind.f k (⟨#[97, 123, 98, 125, 123, 99, 125, 100]⟩ : ByteArray)).bind fun bt119 => (if (t115 == bt117.1) = true then (if t116.toList = bt117.2.toList then (if bt119.1 = true then (some (bt119.2.toList == ([123, 98, 125, 123, 99, 125] : List UInt8))) else (some false)) else (some false)) else (some false)))) = some r := H
      have A4 := Aside0.mk A40
      clear A40
      replace H := Option.bind_eq_some_iff.mp H
      obtain ⟨⟨t117, t118⟩, A50, H⟩ := H
      replace H : ((impl_BracketsFind.f k (⟨#[97, 123, 98, 125, 123, 99, 125, 100]⟩ : ByteArray)).bind fun bt119 => (if (t115 == t117) = true then (if t116.toList = t118.toList then (if bt119.1 = true then (some (bt119.2.toList == ([123, 98, 125, 123, 99, 125] : List UInt8))) else (some false)) else (some false)) else (some false))) = some r := H
      have A5 := Aside0.mk A50
      clear A50
      replace H := Option.bind_eq_some_iff.mp H
      obtain ⟨⟨t119, t120⟩, A60, H⟩ := H
      replace H : (if (t115 == t117) = true then (if t116.toList = t118.toList then (if t119 = true then (some (t120.toList == ([123, 98, 125, 123, 99, 125] : List UInt8))) else (some false)) else (some false)) else (some false)) = some r := H
      have A6 := Aside0.mk A60
      clear A60
      by_cases c7 : (t115 == t117) = true
      · rw [if_pos c7] at H
        have c7b0 : (t115 == t117) = true := c7
        (try (have c7b1 : decide (t115 = t117) = true := by simpa using c7))
        (try (have c7b2 : (t115 == t117) = true := by simpa using c7))
        clear c7
        by_cases c8 : t116.toList = t118.toList
        · rw [if_pos c8] at H
          have c8b0 : (t116.toList == t118.toList) = true := beq_iff_eq.mpr c8
          have c8b1 : (t116.toList != t118.toList) = false := bne_eq_false_iff_eq.mpr c8
          clear c8
          by_cases c9 : t119 = true
          · subst c9
            have H1 : (some (t120.toList == ([123, 98, 125, 123, 99, 125] : List UInt8))) = some r := by rw [if_pos rfl] at H; exact H
            clear H
            have H := H1
            clear H1
            obtain rfl := Option.some.inj H
            go_enter Try.func4, Try.ntmps4
            go_wp2_with (first | ((with_reducible refine gate_callee (f := 9) rfl ?_); refine goesL_ (some 17) rfl rfl Try.func9 (by kernel_rfl) rfl #[.string a0] rfl (by (try simp only [List.map_toArray, List.map_cons, List.map_nil]); first | done | rfl | (simp only [List.length_drop, List.length_take]; rfl)) ?_; (with_reducible refine (impl_BracketsFind.calls k a0 t115 t116 _ A4.out).mono ?_); rintro e w' ⟨rfl, ⟨nd, rfl⟩⟩; refine ⟨_, rfl, ?_⟩) | ((with_reducible refine gate_callee (f := 10) rfl ?_); refine goesL_ (some 22) rfl rfl Try.func10 (by kernel_rfl) rfl #[.string a0] rfl (by (try simp only [List.map_toArray, List.map_cons, List.map_nil]); first | done | rfl | (simp only [List.length_drop, List.length_take]; rfl)) ?_; (with_reducible refine (spec_Brackets.calls k a0 t117 t118 _ A5.out).mono ?_); rintro e w' ⟨rfl, ⟨nd, rfl⟩⟩; refine ⟨_, rfl, ?_⟩) | ((with_reducible refine gate_callee (f := 9) rfl ?_); refine goesL_ (some 26) rfl rfl Try.func9 (by kernel_rfl) rfl #[.string (⟨#[97, 123, 98, 125, 123, 99, 125, 100]⟩ : ByteArray)] rfl (by (try simp only [List.map_toArray, List.map_cons, List.map_nil]); first | done | rfl | (simp only [List.length_drop, List.length_take]; rfl)) ?_; (with_reducible refine (impl_BracketsFind.calls k (⟨#[97, 123, 98, 125, 123, 99, 125, 100]⟩ : ByteArray) true t120 _ A6.out).mono ?_); rintro e w' ⟨rfl, ⟨nd, rfl⟩⟩; refine ⟨_, rfl, ?_⟩))
            go_ret
            exact ⟨by first | rfl | (simp; done) | (simp [*]; done), by repeat (first | exact Drawn0.refl _ | apply Drawn0.step)⟩
          · replace c9 := Bool.eq_false_iff.mpr c9
            subst c9
            have H1 : (some false) = some r := by rw [if_neg (show ¬ (false = true) by decide)] at H; exact H
            clear H
            have H := H1
            clear H1
            obtain rfl := Option.some.inj H
            go_enter Try.func4, Try.ntmps4
            go_wp2_with (first | ((with_reducible refine gate_callee (f := 9) rfl ?_); refine goesL_ (some 17) rfl rfl Try.func9 (by kernel_rfl) rfl #[.string a0] rfl (by (try simp only [List.map_toArray, List.map_cons, List.map_nil]); first | done | rfl | (simp only [List.length_drop, List.length_take]; rfl)) ?_; (with_reducible refine (impl_BracketsFind.calls k a0 t115 t116 _ A4.out).mono ?_); rintro e w' ⟨rfl, ⟨nd, rfl⟩⟩; refine ⟨_, rfl, ?_⟩) | ((with_reducible refine gate_callee (f := 10) rfl ?_); refine goesL_ (some 22) rfl rfl Try.func10 (by kernel_rfl) rfl #[.string a0] rfl (by (try simp only [List.map_toArray, List.map_cons, List.map_nil]); first | done | rfl | (simp only [List.length_drop, List.length_take]; rfl)) ?_; (with_reducible refine (spec_Brackets.calls k a0 t117 t118 _ A5.out).mono ?_); rintro e w' ⟨rfl, ⟨nd, rfl⟩⟩; refine ⟨_, rfl, ?_⟩) | ((with_reducible refine gate_callee (f := 9) rfl ?_); refine goesL_ (some 26) rfl rfl Try.func9 (by kernel_rfl) rfl #[.string (⟨#[97, 123, 98, 125, 123, 99, 125, 100]⟩ : ByteArray)] rfl (by (try simp only [List.map_toArray, List.map_cons, List.map_nil]); first | done | rfl | (simp only [List.length_drop, List.length_take]; rfl)) ?_; (with_reducible refine (impl_BracketsFind.calls k (⟨#[97, 123, 98, 125, 123, 99, 125, 100]⟩ : ByteArray) false t120 _ A6.out).mono ?_); rintro e w' ⟨rfl, ⟨nd, rfl⟩⟩; refine ⟨_, rfl, ?_⟩))
            go_ret
            exact ⟨by first | rfl | (simp; done) | (simp [*]; done), by repeat (first | exact Drawn0.refl _ | apply Drawn0.step)⟩
        · rw [if_neg c8] at H
          have c8b0 : (t116.toList == t118.toList) = false := beq_eq_false_iff_ne.mpr c8
          have c8b1 : (t116.toList != t118.toList) = true := bne_iff_ne.mpr c8
          obtain rfl := Option.some.inj H
          go_enter Try.func4, Try.ntmps4
          go_wp2_with (first | ((with_reducible refine gate_callee (f := 9) rfl ?_); refine goesL_ (some 17) rfl rfl Try.func9 (by kernel_rfl) rfl #[.string a0] rfl (by (try simp only [List.map_toArray, List.map_cons, List.map_nil]); first | done | rfl | (simp only [List.length_drop, List.length_take]; rfl)) ?_; (with_reducible refine (impl_BracketsFind.calls k a0 t115 t116 _ A4.out).mono ?_); rintro e w' ⟨rfl, ⟨nd, rfl⟩⟩; refine ⟨_, rfl, ?_⟩) | ((with_reducible refine gate_callee (f := 10) rfl ?_); refine goesL_ (some 22) rfl rfl Try.func10 (by kernel_rfl) rfl #[.string a0] rfl (by (try simp only [List.map_toArray, List.map_cons, List.map_nil]); first | done | rfl | (simp only [List.length_drop, List.length_take]; rfl)) ?_; (with_reducible refine (spec_Brackets.calls k a0 t117 t118 _ A5.out).mono ?_); rintro e w' ⟨rfl, ⟨nd, rfl⟩⟩; refine ⟨_, rfl, ?_⟩) | ((with_reducible refine gate_callee (f := 9) rfl ?_); refine goesL_ (some 26) rfl rfl Try.func9 (by kernel_rfl) rfl #[.string (⟨#[97, 123, 98, 125, 123, 99, 125, 100]⟩ : ByteArray)] rfl (by (try simp only [List.map_toArray, List.map_cons, List.map_nil]); first | done | rfl | (simp only [List.length_drop, List.length_take]; rfl)) ?_; (with_reducible refine (impl_BracketsFind.calls k (⟨#[97, 123, 98, 125, 123, 99, 125, 100]⟩ : ByteArray) t119 t120 _ A6.out).mono ?_); rintro e w' ⟨rfl, ⟨nd, rfl⟩⟩; refine ⟨_, rfl, ?_⟩))
          go_ret
          exact ⟨by first | rfl | (simp; done) | (simp [*]; done), by repeat (first | exact Drawn0.refl _ | apply Drawn0.step)⟩
      · rw [if_neg c7] at H
        have c7b0 : (t115 == t117) = false := by simpa using c7
        (try (have c7b1 : decide (t115 = t117) = false := by simpa using c7))
        (try (have c7b2 : (t115 == t117) = false := by simpa using c7))
        (try (have c7b3 : ¬ (t115 = t117) := by simpa using c7))
        clear c7
        obtain rfl := Option.some.inj H
        go_enter Try.func4, Try.ntmps4
        go_wp2_with (first | ((with_reducible refine gate_callee (f := 9) rfl ?_); refine goesL_ (some 17) rfl rfl Try.func9 (by kernel_rfl) rfl #[.string a0] rfl (by (try simp only [List.map_toArray, List.map_cons, List.map_nil]); first | done | rfl | (simp only [List.length_drop, List.length_take]; rfl)) ?_; (with_reducible refine (impl_BracketsFind.calls k a0 t115 t116 _ A4.out).mono ?_); rintro e w' ⟨rfl, ⟨nd, rfl⟩⟩; refine ⟨_, rfl, ?_⟩) | ((with_reducible refine gate_callee (f := 10) rfl ?_); refine goesL_ (some 22) rfl rfl Try.func10 (by kernel_rfl) rfl #[.string a0] rfl (by (try simp only [List.map_toArray, List.map_cons, List.map_nil]); first | done | rfl | (simp only [List.length_drop, List.length_take]; rfl)) ?_; (with_reducible refine (spec_Brackets.calls k a0 t117 t118 _ A5.out).mono ?_); rintro e w' ⟨rfl, ⟨nd, rfl⟩⟩; refine ⟨_, rfl, ?_⟩) | ((with_reducible refine gate_callee (f := 9) rfl ?_); refine goesL_ (some 26) rfl rfl Try.func9 (by kernel_rfl) rfl #[.string (⟨#[97, 123, 98, 125, 123, 99, 125, 100]⟩ : ByteArray)] rfl (by (try simp only [List.map_toArray, List.map_cons, List.map_nil]); first | done | rfl | (simp only [List.length_drop, List.length_take]; rfl)) ?_; (with_reducible refine (impl_BracketsFind.calls k (⟨#[97, 123, 98, 125, 123, 99, 125, 100]⟩ : ByteArray) t119 t120 _ A6.out).mono ?_); rintro e w' ⟨rfl, ⟨nd, rfl⟩⟩; refine ⟨_, rfl, ?_⟩))
        go_ret
        exact ⟨by first | rfl | (simp; done) | (simp [*]; done), by repeat (first | exact Drawn0.refl _ | apply Drawn0.step)⟩
def laws_FnBracketsFind.Pure : Prop := ∀ (a0 : ByteArray), a0.size ≤ 140737488351232 → ∃ k, laws_FnBracketsFind.f k a0 = some true
theorem laws_FnBracketsFind.walk (P : laws_FnBracketsFind.Pure) (w : World) (a0 : ByteArray) (b0_0 : a0.size ≤ 140737488351232) :
    Calls Try.prog 4 #[.string a0] w fun e w' => e = .returned (.bool true) ∧ Below w.heap.size w w' := by
  obtain ⟨k, h⟩ := P a0 b0_0
  refine (laws_FnBracketsFind.calls k a0 true w  h).mono ?_
  rintro e w' ⟨rfl, hd⟩
  exact ⟨rfl, hd.below⟩

end Go.Proofs.Ytkdmdoflfaldiaa.PS
