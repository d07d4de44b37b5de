-- Written by a program of this session.
import Derived.Test.YtjabjcgomnjpcaaDoorPMx0
namespace Go.Proofs.YtjabjcgomnjpcaaDoor.PM
open Go.RowKit Go.Proofs.YtjabjcgomnjpcaaDoorW.PrintWords Go.Proofs.YtjabjcgomnjpcaaDoorW.PrintLast Go.Proofs.YtjabjcgomnjpcaaDoorW.PrintMore
attribute [local go_sem] max2_int min2_int max_two min_two max_three min_three max_four min_four   -- for this text's walks alone
set_option linter.unusedVariables false
set_option linter.unusedSimpArgs false

/-! ### spec_hexText: function 13 -/
def spec_hexText.f : Nat → Int → Option (ByteArray)
  | 0, _ => none
  | k + 1, a0 => if a0 < 16 then (if 0 ≤ a0 then (if a0 ≤ (IntKind.u64.wrap (a0 + 1)) then (if (IntKind.u64.wrap (a0 + 1)) ≤ 16 then (if 2 + ((⟨#[48, 49, 50, 51, 52, 53, 54, 55, 56, 57, 65, 66, 67, 68, 69, 70]⟩ : ByteArray).extract (a0 : Int).toNat ((IntKind.u64.wrap (a0 + 1)) : Int).toNat).size ≤ 9223372036854775807 then (some ((⟨#[48, 120]⟩ : ByteArray) ++ ((⟨#[48, 49, 50, 51, 52, 53, 54, 55, 56, 57, 65, 66, 67, 68, 69, 70]⟩ : ByteArray).extract (a0 : Int).toNat ((IntKind.u64.wrap (a0 + 1)) : Int).toNat))) else (none)) else (none)) else (none)) else (none)) else ((spec_hexText.f k (IntKind.u64.wrap (Int.tdiv a0 16))).bind fun t162 => (if 0 ≤ (Int.tmod a0 16) then (if (Int.tmod a0 16) ≤ (IntKind.u64.wrap ((Int.tmod a0 16) + 1)) then (if (IntKind.u64.wrap ((Int.tmod a0 16) + 1)) ≤ 16 then (if t162.size + ((⟨#[48, 49, 50, 51, 52, 53, 54, 55, 56, 57, 65, 66, 67, 68, 69, 70]⟩ : ByteArray).extract ((Int.tmod a0 16) : Int).toNat ((IntKind.u64.wrap ((Int.tmod a0 16) + 1)) : Int).toNat).size ≤ 9223372036854775807 then (some (t162 ++ ((⟨#[48, 49, 50, 51, 52, 53, 54, 55, 56, 57, 65, 66, 67, 68, 69, 70]⟩ : ByteArray).extract ((Int.tmod a0 16) : Int).toNat ((IntKind.u64.wrap ((Int.tmod a0 16) + 1)) : Int).toNat))) else (none)) else (none)) else (none)) else (none)))
theorem spec_hexText.mono_l : ∀ k, (∀ y0, LeO (spec_hexText.f k y0) (spec_hexText.f (k + 1) y0))
  | 0 => fun _ r h => by simp [spec_hexText.f] at h
  | k + 1 => by
    have ih0 := spec_hexText.mono_l k
    · intro y0
      unfold spec_hexText.f
      repeat' first
      | (with_reducible exact ih0 _)
      | (with_reducible exact LeO.refl _)
      | (with_reducible exact LeO.none _)
      | (with_reducible refine LeO.ite ?_ ?_)
      | (with_reducible refine LeO.bind ?_ (fun _ => ?_))
      | exact ih0 _
      | exact LeO.none _
      | refine LeO.ite ?_ ?_
      | refine LeO.bind ?_ (fun _ => ?_)
theorem spec_hexText.mono : ∀ a0 k, LeO (spec_hexText.f k a0) (spec_hexText.f (k + 1) a0) := by
  intro a0 k
  have ih0 := spec_hexText.mono_l k
  exact ih0 a0
def spec_hexText.T3 : Bool × List (List Nat × List Nat) := (true, [([], []), ([0], [0]), ([1], [1]), ([], []), ([3], [3]), ([], []), ([5], [5]), ([6], [6]), ([4, 7], [4, 7]), ([2, 8], [2, 8]), ([9, 2, 0, 1, 2, 3, 4, 5, 6, 7, 8, 9], [9])])
def spec_hexText.B3 : List Nat := [0, 1, 3, 0, 8, 0, 32, 96, 248, 511, 1023]
theorem spec_hexText.tab3 : rtab .any (opsOf Tryd.f13 3) = spec_hexText.T3 := by kernel_rfl
theorem spec_hexText.bits3 : waitsOk spec_hexText.T3.2 spec_hexText.B3 = true := by kernel_rfl
set_option maxHeartbeats 8000000 in
set_option maxRecDepth 100000 in
theorem spec_hexText.calls (k : Nat) : ∀ (a0 : Int) (r : ByteArray) (w : World) (h : spec_hexText.f k a0 = some r),
    Calls Tryd.prog 13 #[.int .u64 a0] w fun e w' => e = .returned (.string r) ∧ Below w.heap.size w w' := by
  induction k using Nat.strongRecOn with
  | _ k ih =>
  intro a0 r w h
  cases k with
  | zero => exact absurd h (by simp [spec_hexText.f])
  | succ k =>
  simp only [spec_hexText.f] at h
  have HB := Aside0.mk (Below.refl w.heap.size w)
  have H : (if a0 < 16 then (if 0 ≤ a0 then (if a0 ≤ (IntKind.u64.wrap (a0 + 1)) then (if (IntKind.u64.wrap (a0 + 1)) ≤ 16 then (if 2 + ((⟨#[48, 49, 50, 51, 52, 53, 54, 55, 56, 57, 65, 66, 67, 68, 69, 70]⟩ : ByteArray).extract (a0 : Int).toNat ((IntKind.u64.wrap (a0 + 1)) : Int).toNat).size ≤ 9223372036854775807 then (some ((⟨#[48, 120]⟩ : ByteArray) ++ ((⟨#[48, 49, 50, 51, 52, 53, 54, 55, 56, 57, 65, 66, 67, 68, 69, 70]⟩ : ByteArray).extract (a0 : Int).toNat ((IntKind.u64.wrap (a0 + 1)) : Int).toNat))) else (none)) else (none)) else (none)) else (none)) else ((spec_hexText.f k (IntKind.u64.wrap (Int.tdiv a0 16))).bind fun t162 => (if 0 ≤ (Int.tmod a0 16) then (if (Int.tmod a0 16) ≤ (IntKind.u64.wrap ((Int.tmod a0 16) + 1)) then (if (IntKind.u64.wrap ((Int.tmod a0 16) + 1)) ≤ 16 then (if t162.size + ((⟨#[48, 49, 50, 51, 52, 53, 54, 55, 56, 57, 65, 66, 67, 68, 69, 70]⟩ : ByteArray).extract ((Int.tmod a0 16) : Int).toNat ((IntKind.u64.wrap ((Int.tmod a0 16) + 1)) : Int).toNat).size ≤ 9223372036854775807 then (some (t162 ++ ((⟨#[48, 49, 50, 51, 52, 53, 54, 55, 56, 57, 65, 66, 67, 68, 69, 70]⟩ : ByteArray).extract ((Int.tmod a0 16) : Int).toNat ((IntKind.u64.wrap ((Int.tmod a0 16) + 1)) : Int).toNat))) else (none)) else (none)) else (none)) else (none)))) = some r := h
  clear h
  by_cases c2 : a0 < 16
  · rw [if_pos c2] at H
    have c2b0 : decide (a0 < 16) = true := decide_eq_true c2
    clear c2
    by_cases c3 : 0 ≤ a0
    · rw [if_pos c3] at H
      have c3b0 := eq_true c3
      have c3b1 : decide (0 ≤ a0) = true := decide_eq_true c3
      clear c3
      by_cases c4 : a0 ≤ (IntKind.u64.wrap (a0 + 1))
      · rw [if_pos c4] at H
        have c4b0 := eq_true c4
        have c4b1 : decide (a0 ≤ (IntKind.u64.wrap (a0 + 1))) = true := decide_eq_true c4
        by_cases c5 : (IntKind.u64.wrap (a0 + 1)) ≤ 16
        · rw [if_pos c5] at H
          have c5b0 := eq_true c5
          have c5b1 : decide ((IntKind.u64.wrap (a0 + 1)) ≤ 16) = true := decide_eq_true c5
          by_cases c6 : 2 + ((⟨#[48, 49, 50, 51, 52, 53, 54, 55, 56, 57, 65, 66, 67, 68, 69, 70]⟩ : ByteArray).extract (a0 : Int).toNat ((IntKind.u64.wrap (a0 + 1)) : Int).toNat).size ≤ 9223372036854775807
          · rw [if_pos c6] at H
            have c6b0 := eq_true c6
            have c6b1 : decide (2 + ((⟨#[48, 49, 50, 51, 52, 53, 54, 55, 56, 57, 65, 66, 67, 68, 69, 70]⟩ : ByteArray).extract (a0 : Int).toNat ((IntKind.u64.wrap (a0 + 1)) : Int).toNat).size ≤ 9223372036854775807) = true := decide_eq_true c6
            try have c6b2 : (9223372036854775807 < 2 + ((⟨#[48, 49, 50, 51, 52, 53, 54, 55, 56, 57, 65, 66, 67, 68, 69, 70]⟩ : ByteArray).extract (a0 : Int).toNat ((IntKind.u64.wrap (a0 + 1)) : Int).toNat).size) = False := eq_false (Nat.not_lt.2 c6)
            obtain rfl := Option.some.inj H
            go_enter Tryd.func13, Tryd.ntmps13
            go_wp2
            go_ret
            exact ⟨by first | rfl | (simp [errW_none, errW_some] <;> rfl) | (simp [*, errW_none, errW_some] <;> rfl), by repeat (first | (with_reducible first | exact HB.out | apply below_alloc | apply pw_below_drewN | apply below_drew1) | exact HB.out)⟩
          · rw [if_neg c6] at H
            exact absurd H (by simp)
        · rw [if_neg c5] at H
          exact absurd H (by simp)
      · rw [if_neg c4] at H
        exact absurd H (by simp)
    · rw [if_neg c3] at H
      exact absurd H (by simp)
  · rw [if_neg c2] at H
    have c2b0 : decide (a0 < 16) = false := decide_eq_false c2
    clear c2
    replace H := Option.bind_eq_some_iff.mp H
    obtain ⟨t162, A70, H⟩ := H
    replace H : (if 0 ≤ (Int.tmod a0 16) then (if (Int.tmod a0 16) ≤ (IntKind.u64.wrap ((Int.tmod a0 16) + 1)) then (if (IntKind.u64.wrap ((Int.tmod a0 16) + 1)) ≤ 16 then (if t162.size + ((⟨#[48, 49, 50, 51, 52, 53, 54, 55, 56, 57, 65, 66, 67, 68, 69, 70]⟩ : ByteArray).extract ((Int.tmod a0 16) : Int).toNat ((IntKind.u64.wrap ((Int.tmod a0 16) + 1)) : Int).toNat).size ≤ 9223372036854775807 then (some (t162 ++ ((⟨#[48, 49, 50, 51, 52, 53, 54, 55, 56, 57, 65, 66, 67, 68, 69, 70]⟩ : ByteArray).extract ((Int.tmod a0 16) : Int).toNat ((IntKind.u64.wrap ((Int.tmod a0 16) + 1)) : Int).toNat))) else (none)) else (none)) else (none)) else (none)) = some r := H
    have A7 := Aside0.mk A70
    clear A70
    obtain ⟨ji8, hji8⟩ : ∃ j_ : Int, (Int.tmod a0 16) = j_ := ⟨_, rfl⟩
    replace H : (if 0 ≤ (ji8) then (if (ji8) ≤ (IntKind.u64.wrap ((ji8) + 1)) then (if (IntKind.u64.wrap ((ji8) + 1)) ≤ 16 then (if t162.size + ((⟨#[48, 49, 50, 51, 52, 53, 54, 55, 56, 57, 65, 66, 67, 68, 69, 70]⟩ : ByteArray).extract ((ji8) : Int).toNat ((IntKind.u64.wrap ((ji8) + 1)) : Int).toNat).size ≤ 9223372036854775807 then (some (t162 ++ ((⟨#[48, 49, 50, 51, 52, 53, 54, 55, 56, 57, 65, 66, 67, 68, 69, 70]⟩ : ByteArray).extract ((ji8) : Int).toNat ((IntKind.u64.wrap ((ji8) + 1)) : Int).toNat))) else (none)) else (none)) else (none)) else (none)) = some r := by first | (rw [hji8] at H; exact H) | (simp only [hji8] at H ⊢; exact H)
    (try rw [hji8] at A7)
    by_cases c9 : 0 ≤ (ji8)
    · rw [if_pos c9] at H
      have c9b0 := eq_true c9
      have c9b1 : decide (0 ≤ (ji8)) = true := decide_eq_true c9
      clear c9
      by_cases c10 : (ji8) ≤ (IntKind.u64.wrap ((ji8) + 1))
      · rw [if_pos c10] at H
        have c10b0 := eq_true c10
        have c10b1 : decide ((ji8) ≤ (IntKind.u64.wrap ((ji8) + 1))) = true := decide_eq_true c10
        by_cases c11 : (IntKind.u64.wrap ((ji8) + 1)) ≤ 16
        · rw [if_pos c11] at H
          have c11b0 := eq_true c11
          have c11b1 : decide ((IntKind.u64.wrap ((ji8) + 1)) ≤ 16) = true := decide_eq_true c11
          by_cases c12 : t162.size + ((⟨#[48, 49, 50, 51, 52, 53, 54, 55, 56, 57, 65, 66, 67, 68, 69, 70]⟩ : ByteArray).extract ((ji8) : Int).toNat ((IntKind.u64.wrap ((ji8) + 1)) : Int).toNat).size ≤ 9223372036854775807
          · rw [if_pos c12] at H
            have c12b0 := eq_true c12
            have c12b1 : decide (t162.size + ((⟨#[48, 49, 50, 51, 52, 53, 54, 55, 56, 57, 65, 66, 67, 68, 69, 70]⟩ : ByteArray).extract ((ji8) : Int).toNat ((IntKind.u64.wrap ((ji8) + 1)) : Int).toNat).size ≤ 9223372036854775807) = true := decide_eq_true c12
            try have c12b2 : (9223372036854775807 < t162.size + ((⟨#[48, 49, 50, 51, 52, 53, 54, 55, 56, 57, 65, 66, 67, 68, 69, 70]⟩ : ByteArray).extract ((ji8) : Int).toNat ((IntKind.u64.wrap ((ji8) + 1)) : Int).toNat).size) = False := eq_false (Nat.not_lt.2 c12)
            have c12b3 : ¬ (9223372036854775807 < t162.size + ((IntKind.u64.wrap (ji8 + 1)).toNat - ji8.toNat)) := by
              have c12' := c12
              rw [ByteArray.size_extract] at c12'
              have e : (⟨#[48, 49, 50, 51, 52, 53, 54, 55, 56, 57, 65, 66, 67, 68, 69, 70]⟩ : ByteArray).size = 16 := rfl
              rw [e] at c12'
              omega
            obtain rfl := Option.some.inj H
            go_enter Tryd.func13, Tryd.ntmps13
            try go_wp2
            have n0_ := Aside0.mk (below_drew1 HB.out)
            clear HB
            have HB := n0_
            clear n0_
            refine start_ (n := 11) (S := fun w' => True) (ds := []) #[false, false, false, false, false, false, false, false, false, false, false] (by kernel_rfl) rfl rfl trivial (fun hHeld => ?_); refine with_tabW spec_hexText.tab3 spec_hexText.bits3 (fun HT_ HW_ => ?_)
            generalize w.drew = w13 at HB hHeld ⊢
            refine pure_ (i := 0) (N := some 10) (v := ?_) (a' := ?_) #[true, false, false, false, false, false, false, false, false, false, false] rfl rfl (any_of HT_.out (by kernel_rfl)) (fun _ _ _ h => h) (Or.inl ⟨by rfl, ?_⟩) ?_ ?_
            rotate_left
            · intro w'
              go_simp
              with_reducible rfl
            rotate_left
            · simp only [Act.put, List.setIfInBounds_toArray, List.set_cons_zero, List.set_cons_succ, i64_w, i32_w]
              rfl
            refine pure_ (i := 1) (N := some 11) (v := ?_) (a' := ?_) #[true, true, false, false, false, false, false, false, false, false, false] rfl rfl (any_of HT_.out (by kernel_rfl)) (fun _ _ _ h => h) (Or.inl ⟨by rfl, ?_⟩) ?_ ?_
            rotate_left
            · intro w'
              go_simp
              with_reducible rfl
            rotate_left
            · simp only [Act.put, List.setIfInBounds_toArray, List.set_cons_zero, List.set_cons_succ, i64_w, i32_w]
              rfl
            refine pure_ (i := 3) (N := some 13) (v := ?_) (a' := ?_) #[true, true, false, true, false, false, false, false, false, false, false] rfl rfl (any_of HT_.out (by kernel_rfl)) (fun _ _ _ h => h) (Or.inl ⟨by rfl, ?_⟩) ?_ ?_
            rotate_left
            · intro w'
              go_simp
              with_reducible rfl
            rotate_left
            · simp only [Act.put, List.setIfInBounds_toArray, List.set_cons_zero, List.set_cons_succ, i64_w, i32_w]
              rfl
            refine pure_ (i := 4) (N := some 14) (v := ?_) (a' := ?_) #[true, true, false, true, true, false, false, false, false, false, false] rfl rfl (any_of HT_.out (by kernel_rfl)) (fun _ _ _ h => h) (Or.inl ⟨by rfl, ?_⟩) ?_ ?_
            rotate_left
            · intro w'
              go_simp
              with_reducible rfl
            rotate_left
            · simp only [Act.put, List.setIfInBounds_toArray, List.set_cons_zero, List.set_cons_succ, i64_w, i32_w]
              rfl
            refine pure_ (i := 5) (N := some 15) (v := ?_) (a' := ?_) #[true, true, false, true, true, true, false, false, false, false, false] rfl rfl (any_of HT_.out (by kernel_rfl)) (fun _ _ _ h => h) (Or.inl ⟨by rfl, ?_⟩) ?_ ?_
            rotate_left
            · intro w'
              go_simp
              with_reducible rfl
            rotate_left
            · simp only [Act.put, List.setIfInBounds_toArray, List.set_cons_zero, List.set_cons_succ, i64_w, i32_w]
              rfl
            refine pure_ (i := 6) (N := some 16) (v := ?_) (a' := ?_) #[true, true, false, true, true, true, true, false, false, false, false] rfl rfl (any_of HT_.out (by kernel_rfl)) (fun _ _ _ h => h) (Or.inl ⟨by rfl, ?_⟩) ?_ ?_
            rotate_left
            · intro w'
              go_simp
              with_reducible rfl
            rotate_left
            · simp only [Act.put, List.setIfInBounds_toArray, List.set_cons_zero, List.set_cons_succ, i64_w, i32_w]
              rfl
            refine pure_ (i := 7) (N := some 17) (v := ?_) (a' := ?_) #[true, true, false, true, true, true, true, true, false, false, false] rfl rfl (any_of HT_.out (by kernel_rfl)) (fun _ _ _ h => h) (Or.inl ⟨by rfl, ?_⟩) ?_ ?_
            rotate_left
            · intro w'
              go_simp
              with_reducible rfl
            rotate_left
            · simp only [Act.put, List.setIfInBounds_toArray, List.set_cons_zero, List.set_cons_succ, i64_w, i32_w]
              rfl
            refine pure_ (i := 8) (N := some 18) (v := ?_) (a' := ?_) #[true, true, false, true, true, true, true, true, true, false, false] rfl rfl (any_of HT_.out (by kernel_rfl)) (fun _ _ _ h => h) (Or.inl ⟨by rfl, ?_⟩) ?_ ?_
            rotate_left
            · intro w'
              go_simp
              with_reducible rfl
            rotate_left
            · simp only [Act.put, List.setIfInBounds_toArray, List.set_cons_zero, List.set_cons_succ, i64_w, i32_w]
              rfl
            refine one_ (i := 2) (N := some 12) #[true, true, true, true, true, true, true, true, true, false, false] rfl rfl (one_of HT_.out (by kernel_rfl)) (by decide) (fun K hK => ?_)
            refine goes_ Tryd.func13 (by kernel_rfl) rfl #[.int .u64 (IntKind.u64.wrap (Int.tdiv a0 16))] (by rfl) rfl rfl (by (try simp only [List.map_toArray, List.map_cons, List.map_nil]); first | done | rfl | (simp only [List.length_drop, List.length_take]; rfl)) ?_
            with_reducible refine (ih k (by omega) (IntKind.u64.wrap (Int.tdiv a0 16)) t162 _ A7.out).mono ?_
            rintro e w14 ⟨rfl, hb⟩
            refine ⟨_, rfl, ?_⟩
            have n0_ := Aside0.mk (below_step (by repeat (first | (with_reducible first | exact HB.out | apply below_alloc | apply pw_below_drewN | apply below_drew1) | exact HB.out)) hb)
            clear HB
            have HB := n0_
            clear n0_
            (try clear hb)
            (try clear hb2)
            (try clear hk)
            (try clear hi)
            refine hK.out _ _ trivial (fun hHeld => ?_)
            clear hK K
            refine norm_ (a' := ?_) ?_ ?_
            rotate_left
            · show Act.put _ (some 12) _ = _
              simp only [Act.put, List.setIfInBounds_toArray, List.set_cons_zero, List.set_cons_succ, i64_w, i32_w]
              rfl
            refine pure_ (i := 9) (N := some 19) (v := ?_) (a' := ?_) #[true, true, true, true, true, true, true, true, true, true, false] rfl rfl (any_of HT_.out (by kernel_rfl)) (fun _ _ _ h => h) (Or.inl ⟨by rfl, ?_⟩) ?_ ?_
            rotate_left
            · intro w'
              go_simp
              with_reducible rfl
            rotate_left
            · simp only [Act.put, List.setIfInBounds_toArray, List.set_cons_zero, List.set_cons_succ, i64_w, i32_w]
              rfl
            refine pure_ (i := 10) (N := some 2) (v := ?_) (a' := ?_) #[true, true, true, true, true, true, true, true, true, true, true] rfl rfl (any_of HT_.out (by kernel_rfl)) (fun _ _ _ h => h) (Or.inl ⟨by rfl, ?_⟩) ?_ ?_
            rotate_left
            · intro w'
              go_simp
              with_reducible rfl
            rotate_left
            · simp only [Act.put, List.setIfInBounds_toArray, List.set_cons_zero, List.set_cons_succ, i64_w, i32_w]
              rfl
            refine done_ (done_of HT_.out (by kernel_rfl)) ?_
            try go_wp2
            go_ret
            exact ⟨by first | rfl | (simp [errW_none, errW_some] <;> rfl) | (simp only [← hji8]; first | rfl | (simp [errW_none, errW_some] <;> rfl)) | (simp [*, errW_none, errW_some] <;> rfl), by repeat (first | (with_reducible first | exact HB.out | apply below_alloc | apply pw_below_drewN | apply below_drew1) | exact HB.out)⟩
          · rw [if_neg c12] at H
            exact absurd H (by simp)
        · rw [if_neg c11] at H
          exact absurd H (by simp)
      · rw [if_neg c10] at H
        exact absurd H (by simp)
    · rw [if_neg c9] at H
      exact absurd H (by simp)

end Go.Proofs.YtjabjcgomnjpcaaDoor.PM
