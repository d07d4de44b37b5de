-- Written by a program of this session.
import Derived.Test.YtcomnkbkkpeilaaPFnBucketBackx0
namespace Go.Proofs.Ytcomnkbkkpeilaa.PFnBucketBack
open Go.RowKit Go.Proofs.YtcomnkbkkpeilaaW.PrintWords Go.Proofs.YtcomnkbkkpeilaaW.PrintLast Go.Proofs.YtcomnkbkkpeilaaW.PrintMore Go.Proofs.Ytcomnkbkkpeilaa.Given
attribute [local go_sem] max2_int min2_int max_two min_two max_three min_three max_four min_four   -- for this text's walks alone
set_option linter.unusedVariables false
set_option linter.unusedSimpArgs false

/-! ### bucket_Split: function 9 -/
def bucket_Split.f (a0 : ByteArray) : Option (ByteArray × ByteArray) := if a0.toList = ([] : List UInt8) then (some ((⟨#[]⟩ : ByteArray), (⟨#[]⟩ : ByteArray))) else ((bucket_zzIndexRune.f a0 47).bind fun t101 => (if t101 < 0 then (some (a0, (⟨#[]⟩ : ByteArray))) else (if 0 ≤ t101 then (if t101 ≤ (a0.size : Int) then (if 0 ≤ (wrap64 (t101 + 1)) then (if (wrap64 (t101 + 1)) ≤ (a0.size : Int) then (some (a0.extract 0 (t101 : Int).toNat, a0.extract ((wrap64 (t101 + 1)) : Int).toNat a0.size)) else (none)) else (none)) else (none)) else (none))))
set_option maxHeartbeats 8000000 in
set_option maxRecDepth 100000 in
theorem bucket_Split.calls (a0 : ByteArray) (r1 : ByteArray) (r2 : ByteArray) (w : World) (h : bucket_Split.f a0 = some (r1, r2)) :
    Calls Try.prog 9 #[.string a0] w fun e w' => e = .returned (.tuple #[.string r1, .string r2]) ∧ Below w.heap.size w w' := by
  have HB := Aside0.mk (Below.refl w.heap.size w)
  have H : (if a0.toList = ([] : List UInt8) then (some ((⟨#[]⟩ : ByteArray), (⟨#[]⟩ : ByteArray))) else ((bucket_zzIndexRune.f a0 47).bind fun t101 => (if t101 < 0 then (some (a0, (⟨#[]⟩ : ByteArray))) else (if 0 ≤ t101 then (if t101 ≤ (a0.size : Int) then (if 0 ≤ (wrap64 (t101 + 1)) then (if (wrap64 (t101 + 1)) ≤ (a0.size : Int) then (some (a0.extract 0 (t101 : Int).toNat, a0.extract ((wrap64 (t101 + 1)) : Int).toNat a0.size)) else (none)) else (none)) else (none)) else (none))))) = some (r1, r2) := h
  clear h
  by_cases c2 : a0.toList = ([] : List UInt8)
  · rw [if_pos c2] at H
    have c2b0 : (a0.toList == ([] : List UInt8)) = true := beq_iff_eq.mpr c2
    have c2b1 : (a0.toList != ([] : List UInt8)) = false := bne_eq_false_iff_eq.mpr c2
    clear c2
    simp only [Option.some.injEq, Prod.mk.injEq] at H
    obtain ⟨rfl, rfl⟩ := H
    go_enter Try.func9, Try.ntmps9
    go_wp2
    repeat (go_quiet (fail); try go_wp2)
    go_ret2
    exact ⟨by first | rfl | (simp [errW_none, errW_some] <;> rfl) | (simp [*, errW_none, errW_some] <;> rfl), by repeat (first | (with_reducible first | exact HB.out | apply below_alloc | apply pw_below_drewN | apply below_drew1) | exact HB.out)⟩
  · rw [if_neg c2] at H
    have c2b0 : (a0.toList == ([] : List UInt8)) = false := beq_eq_false_iff_ne.mpr c2
    have c2b1 : (a0.toList != ([] : List UInt8)) = true := bne_iff_ne.mpr c2
    replace H := Option.bind_eq_some_iff.mp H
    obtain ⟨t101, A30, H⟩ := H
    replace H : (if t101 < 0 then (some (a0, (⟨#[]⟩ : ByteArray))) else (if 0 ≤ t101 then (if t101 ≤ (a0.size : Int) then (if 0 ≤ (wrap64 (t101 + 1)) then (if (wrap64 (t101 + 1)) ≤ (a0.size : Int) then (some (a0.extract 0 (t101 : Int).toNat, a0.extract ((wrap64 (t101 + 1)) : Int).toNat a0.size)) else (none)) else (none)) else (none)) else (none))) = some (r1, r2) := H
    have A3 := Aside0.mk A30
    clear A30
    by_cases c4 : t101 < 0
    · rw [if_pos c4] at H
      have c4b0 : decide (t101 < 0) = true := decide_eq_true c4
      clear c4
      simp only [Option.some.injEq, Prod.mk.injEq] at H
      obtain ⟨rfl, rfl⟩ := H
      go_enter Try.func9, Try.ntmps9
      go_wp2_with (first | (go_at_call 11; (with_reducible refine (bucket_zzIndexRune.calls a0 47 t101 _ A3.out).mono ?_); rintro e w5 ⟨rfl, hb⟩; have n0_ := Aside0.mk (below_step (by repeat (first | (with_reducible first | exact HB.out | apply below_alloc | apply pw_below_drewN | apply below_drew1) | exact HB.out)) hb); clear HB; have HB := n0_; clear n0_; (try clear hb); (try clear hb2); (try clear hk); (try clear hi)))
      repeat (go_quiet (first | (go_at_call 11; (with_reducible refine (bucket_zzIndexRune.calls a0 47 t101 _ A3.out).mono ?_); rintro e w5 ⟨rfl, hb⟩; have n0_ := Aside0.mk (below_step (by repeat (first | (with_reducible first | exact HB.out | apply below_alloc | apply pw_below_drewN | apply below_drew1) | exact HB.out)) hb); clear HB; have HB := n0_; clear n0_; (try clear hb); (try clear hb2); (try clear hk); (try clear hi))); try go_wp2_with (first | (go_at_call 11; (with_reducible refine (bucket_zzIndexRune.calls a0 47 t101 _ A3.out).mono ?_); rintro e w5 ⟨rfl, hb⟩; have n0_ := Aside0.mk (below_step (by repeat (first | (with_reducible first | exact HB.out | apply below_alloc | apply pw_below_drewN | apply below_drew1) | exact HB.out)) hb); clear HB; have HB := n0_; clear n0_; (try clear hb); (try clear hb2); (try clear hk); (try clear hi))))
      go_ret2
      exact ⟨by first | rfl | (simp [errW_none, errW_some] <;> rfl) | (simp [*, errW_none, errW_some] <;> rfl), by repeat (first | (with_reducible first | exact HB.out | apply below_alloc | apply pw_below_drewN | apply below_drew1) | exact HB.out)⟩
    · rw [if_neg c4] at H
      have c4b0 : decide (t101 < 0) = false := decide_eq_false c4
      clear c4
      by_cases c6 : 0 ≤ t101
      · rw [if_pos c6] at H
        have c6b0 := eq_true c6
        have c6b1 : decide (0 ≤ t101) = true := decide_eq_true c6
        clear c6
        by_cases c7 : t101 ≤ (a0.size : Int)
        · rw [if_pos c7] at H
          have c7b0 := eq_true c7
          have c7b1 : decide (t101 ≤ (a0.size : Int)) = true := decide_eq_true c7
          clear c7
          obtain ⟨ji8, hji8⟩ : ∃ j_ : Int, (wrap64 (t101 + 1)) = j_ := ⟨_, rfl⟩
          replace H : (if 0 ≤ (ji8) then (if (ji8) ≤ (a0.size : Int) then (some (a0.extract 0 (t101 : Int).toNat, a0.extract ((ji8) : Int).toNat a0.size)) else (none)) else (none)) = some (r1, r2) := by first | (rw [hji8] at H; exact H) | (simp only [hji8] at H ⊢; exact H)
          (try rw [hji8] at A3)
          have hji8w : (IntKind.i64.wrap (t101 + 1)) = ji8 := (i64_w _).trans hji8
          by_cases c9 : 0 ≤ (ji8)
          · rw [if_pos c9] at H
            have c9b0 := eq_true c9
            have c9b1 : decide (0 ≤ (ji8)) = true := decide_eq_true c9
            clear c9
            by_cases c10 : (ji8) ≤ (a0.size : Int)
            · rw [if_pos c10] at H
              have c10b0 := eq_true c10
              have c10b1 : decide ((ji8) ≤ (a0.size : Int)) = true := decide_eq_true c10
              clear c10
              simp only [Option.some.injEq, Prod.mk.injEq] at H
              obtain ⟨rfl, rfl⟩ := H
              go_enter Try.func9, Try.ntmps9
              go_wp2_with (first | (go_at_call 11; (with_reducible refine (bucket_zzIndexRune.calls a0 47 t101 _ A3.out).mono ?_); rintro e w11 ⟨rfl, hb⟩; have n0_ := Aside0.mk (below_step (by repeat (first | (with_reducible first | exact HB.out | apply below_alloc | apply pw_below_drewN | apply below_drew1) | exact HB.out)) hb); clear HB; have HB := n0_; clear n0_; (try clear hb); (try clear hb2); (try clear hk); (try clear hi)))
              repeat (go_quiet (first | (go_at_call 11; (with_reducible refine (bucket_zzIndexRune.calls a0 47 t101 _ A3.out).mono ?_); rintro e w11 ⟨rfl, hb⟩; have n0_ := Aside0.mk (below_step (by repeat (first | (with_reducible first | exact HB.out | apply below_alloc | apply pw_below_drewN | apply below_drew1) | exact HB.out)) hb); clear HB; have HB := n0_; clear n0_; (try clear hb); (try clear hb2); (try clear hk); (try clear hi))); try go_wp2_with (first | (go_at_call 11; (with_reducible refine (bucket_zzIndexRune.calls a0 47 t101 _ A3.out).mono ?_); rintro e w11 ⟨rfl, hb⟩; have n0_ := Aside0.mk (below_step (by repeat (first | (with_reducible first | exact HB.out | apply below_alloc | apply pw_below_drewN | apply below_drew1) | exact HB.out)) hb); clear HB; have HB := n0_; clear n0_; (try clear hb); (try clear hb2); (try clear hk); (try clear hi))))
              go_ret2
              exact ⟨by first | rfl | (simp [errW_none, errW_some] <;> rfl) | (simp only [← hji8]; first | rfl | (simp [errW_none, errW_some] <;> rfl)) | (simp [*, errW_none, errW_some] <;> rfl), by repeat (first | (with_reducible first | exact HB.out | apply below_alloc | apply pw_below_drewN | apply below_drew1) | exact HB.out)⟩
            · rw [if_neg c10] at H
              exact absurd H (by simp)
          · rw [if_neg c9] at H
            exact absurd H (by simp)
        · rw [if_neg c7] at H
          exact absurd H (by simp)
      · rw [if_neg c6] at H
        exact absurd H (by simp)

/-! ### impl_BucketSplit: function 5 -/
def impl_BucketSplit.f (a0 : ByteArray) : Option (ByteArray × ByteArray) := (bucket_Split.f a0).bind fun bt102 => (some (bt102.1, bt102.2))
set_option maxHeartbeats 8000000 in
set_option maxRecDepth 100000 in
theorem impl_BucketSplit.calls (a0 : ByteArray) (r1 : ByteArray) (r2 : ByteArray) (w : World) (h : impl_BucketSplit.f a0 = some (r1, r2)) :
    Calls Try.prog 5 #[.string a0] w fun e w' => e = .returned (.tuple #[.string r1, .string r2]) ∧ Below w.heap.size w w' := by
  have HB := Aside0.mk (Below.refl w.heap.size w)
  have H : ((bucket_Split.f a0).bind fun bt102 => (some (bt102.1, bt102.2))) = some (r1, r2) := h
  clear h
  replace H := Option.bind_eq_some_iff.mp H
  obtain ⟨⟨t102, t103⟩, A20, H⟩ := H
  replace H : (some (t102, t103)) = some (r1, r2) := H
  have A2 := Aside0.mk A20
  clear A20
  simp only [Option.some.injEq, Prod.mk.injEq] at H
  obtain ⟨rfl, rfl⟩ := H
  go_enter Try.func5, Try.ntmps5
  go_wp2_with (first | ((with_reducible refine gate_callee (f := 9) rfl ?_); refine goesL_ (some 5) rfl rfl Try.func9 (by kernel_rfl) rfl #[.string a0] rfl (by (try simp only [List.map_toArray, List.map_cons, List.map_nil]); first | done | rfl | (simp only [List.length_drop, List.length_take]; rfl)) ?_; (with_reducible refine (bucket_Split.calls a0 t102 t103 _ A2.out).mono ?_); rintro e w3 ⟨rfl, hb⟩; refine ⟨_, rfl, ?_⟩; have n0_ := Aside0.mk (below_step (by repeat (first | (with_reducible first | exact HB.out | apply below_alloc | apply pw_below_drewN | apply below_drew1) | exact HB.out)) hb); clear HB; have HB := n0_; clear n0_; (try clear hb); (try clear hb2); (try clear hk); (try clear hi)))
  go_ret2
  exact ⟨by first | rfl | (simp [errW_none, errW_some] <;> rfl) | (simp [*, errW_none, errW_some] <;> rfl), by repeat (first | (with_reducible first | exact HB.out | apply below_alloc | apply pw_below_drewN | apply below_drew1) | exact HB.out)⟩

/-! ### bucket_Join: function 10 -/
def bucket_Join.f (a0 : ByteArray) (a1 : ByteArray) : Option (ByteArray) := if a0.toList = ([] : List UInt8) then (some a1) else (if a1.toList = ([] : List UInt8) then (some a0) else (if a0.size + 1 ≤ 9223372036854775807 then (if (a0 ++ (⟨#[47]⟩ : ByteArray)).size + a1.size ≤ 9223372036854775807 then (some ((a0 ++ (⟨#[47]⟩ : ByteArray)) ++ a1)) else (none)) else (none)))
set_option maxHeartbeats 8000000 in
set_option maxRecDepth 100000 in
theorem bucket_Join.calls (a0 : ByteArray) (a1 : ByteArray) (r : ByteArray) (w : World) (h : bucket_Join.f a0 a1 = some r) :
    Calls Try.prog 10 #[.string a0, .string a1] w fun e w' => e = .returned (.string r) ∧ Drawn0 w w' := by
  have H : (if a0.toList = ([] : List UInt8) then (some a1) else (if a1.toList = ([] : List UInt8) then (some a0) else (if a0.size + 1 ≤ 9223372036854775807 then (if (a0 ++ (⟨#[47]⟩ : ByteArray)).size + a1.size ≤ 9223372036854775807 then (some ((a0 ++ (⟨#[47]⟩ : ByteArray)) ++ a1)) else (none)) else (none)))) = some r := h
  clear h
  by_cases c3 : a0.toList = ([] : List UInt8)
  · rw [if_pos c3] at H
    have c3b0 : (a0.toList == ([] : List UInt8)) = true := beq_iff_eq.mpr c3
    have c3b1 : (a0.toList != ([] : List UInt8)) = false := bne_eq_false_iff_eq.mpr c3
    clear c3
    obtain rfl := Option.some.inj H
    go_enter Try.func10, Try.ntmps10
    go_wp2
    go_ret
    exact ⟨by first | rfl | (simp; done) | (simp [*]; done), by repeat (first | exact Drawn0.refl _ | apply Drawn0.step)⟩
  · rw [if_neg c3] at H
    have c3b0 : (a0.toList == ([] : List UInt8)) = false := beq_eq_false_iff_ne.mpr c3
    have c3b1 : (a0.toList != ([] : List UInt8)) = true := bne_iff_ne.mpr c3
    by_cases c4 : a1.toList = ([] : List UInt8)
    · rw [if_pos c4] at H
      have c4b0 : (a1.toList == ([] : List UInt8)) = true := beq_iff_eq.mpr c4
      have c4b1 : (a1.toList != ([] : List UInt8)) = false := bne_eq_false_iff_eq.mpr c4
      clear c4
      obtain rfl := Option.some.inj H
      go_enter Try.func10, Try.ntmps10
      go_wp2
      go_ret
      exact ⟨by first | rfl | (simp; done) | (simp [*]; done), by repeat (first | exact Drawn0.refl _ | apply Drawn0.step)⟩
    · rw [if_neg c4] at H
      have c4b0 : (a1.toList == ([] : List UInt8)) = false := beq_eq_false_iff_ne.mpr c4
      have c4b1 : (a1.toList != ([] : List UInt8)) = true := bne_iff_ne.mpr c4
      by_cases c5 : a0.size + 1 ≤ 9223372036854775807
      · rw [if_pos c5] at H
        have c5b0 := eq_true c5
        have c5b1 : decide (a0.size + 1 ≤ 9223372036854775807) = true := decide_eq_true c5
        try have c5b2 : (9223372036854775807 < a0.size + 1) = False := eq_false (Nat.not_lt.2 c5)
        by_cases c6 : (a0 ++ (⟨#[47]⟩ : ByteArray)).size + a1.size ≤ 9223372036854775807
        · rw [if_pos c6] at H
          have c6b0 := eq_true c6
          have c6b1 : decide ((a0 ++ (⟨#[47]⟩ : ByteArray)).size + a1.size ≤ 9223372036854775807) = true := decide_eq_true c6
          try have c6b2 : (9223372036854775807 < (a0 ++ (⟨#[47]⟩ : ByteArray)).size + a1.size) = False := eq_false (Nat.not_lt.2 c6)
          obtain rfl := Option.some.inj H
          go_enter Try.func10, Try.ntmps10
          go_wp2
          go_ret
          exact ⟨by first | rfl | (simp; done) | (simp [*]; done), by repeat (first | exact Drawn0.refl _ | apply Drawn0.step)⟩
        · rw [if_neg c6] at H
          exact absurd H (by simp)
      · rw [if_neg c5] at H
        exact absurd H (by simp)

/-! ### impl_BucketJoin: function 7 -/
def impl_BucketJoin.f (a0 : ByteArray) (a1 : ByteArray) : Option (ByteArray) := (bucket_Join.f a0 a1).bind fun t104 => (some t104)
set_option maxHeartbeats 8000000 in
set_option maxRecDepth 100000 in
theorem impl_BucketJoin.calls (a0 : ByteArray) (a1 : ByteArray) (r : ByteArray) (w : World) (h : impl_BucketJoin.f a0 a1 = some r) :
    Calls Try.prog 7 #[.string a0, .string a1] w fun e w' => e = .returned (.string r) ∧ Drawn0 w w' := by
  have H : ((bucket_Join.f a0 a1).bind fun t104 => (some t104)) = some r := h
  clear h
  replace H := Option.bind_eq_some_iff.mp H
  obtain ⟨t104, A30, H⟩ := H
  replace H : (some t104) = some r := H
  have A3 := Aside0.mk A30
  clear A30
  obtain rfl := Option.some.inj H
  go_enter Try.func7, Try.ntmps7
  go_wp2_with (first | ((with_reducible refine gate_callee (f := 10) rfl ?_); refine goesL_ (some 7) rfl rfl Try.func10 (by kernel_rfl) rfl #[.string a0, .string a1] rfl (by (try simp only [List.map_toArray, List.map_cons, List.map_nil]); first | done | rfl | (simp only [List.length_drop, List.length_take]; rfl)) ?_; (with_reducible refine (bucket_Join.calls a0 a1 t104 _ A3.out).mono ?_); rintro e w' ⟨rfl, ⟨nd, rfl⟩⟩; refine ⟨_, rfl, ?_⟩))
  go_ret
  exact ⟨by first | rfl | (simp; done) | (simp [*]; done), by repeat (first | exact Drawn0.refl _ | apply Drawn0.step)⟩

/-! ### spec_LastSlash: function 8 -/
def spec_LastSlash.l0 : Nat → ByteArray → Int → Option (Int)
  | 0, _, _ => none
  | k + 1, x0, x3 => if x3 ≥ 0 then (if 0 ≤ x3 then (if x3 < (x0.size : Int) then (if (bt x0 x3) = 47 then (some x3) else (spec_LastSlash.l0 k x0 (wrap64 (x3 - 1)))) else (none)) else (none)) else (some (-1))
def spec_LastSlash.f (k : Nat) (a0 : ByteArray) : Option (Int) := spec_LastSlash.l0 k a0 (wrap64 ((a0.size : Int) - 1))
theorem spec_LastSlash.mono_l : ∀ k, (∀ y0 y1, LeO (spec_LastSlash.l0 k y0 y1) (spec_LastSlash.l0 (k + 1) y0 y1))
  | 0 => fun _ _ r h => by simp [spec_LastSlash.l0] at h
  | k + 1 => by
    have ih0 := spec_LastSlash.mono_l k
    · intro y0 y1
      unfold spec_LastSlash.l0
      repeat' first
      | (with_reducible exact ih0 _ _)
      | (with_reducible exact LeO.refl _)
      | (with_reducible exact LeO.none _)
      | (with_reducible refine LeO.ite ?_ ?_)
      | (with_reducible refine LeO.bind ?_ (fun _ => ?_))
      | exact ih0 _ _
      | exact LeO.none _
      | refine LeO.ite ?_ ?_
      | refine LeO.bind ?_ (fun _ => ?_)
theorem spec_LastSlash.mono : ∀ a0 k, LeO (spec_LastSlash.f k a0) (spec_LastSlash.f (k + 1) a0) := by
  intro a0 k
  have ih0 := spec_LastSlash.mono_l k
  unfold spec_LastSlash.f
  repeat' first
      | (with_reducible exact ih0 _ _)
      | (with_reducible exact LeO.refl _)
      | (with_reducible exact LeO.none _)
      | (with_reducible refine LeO.ite ?_ ?_)
      | (with_reducible refine LeO.bind ?_ (fun _ => ?_))
      | exact ih0 _ _
      | exact LeO.none _
      | refine LeO.ite ?_ ?_
      | refine LeO.bind ?_ (fun _ => ?_)
set_option maxHeartbeats 8000000 in
set_option maxRecDepth 100000 in
theorem spec_LastSlash.calls (k : Nat) (a0 : ByteArray) (r : Int) (w : World) (h : spec_LastSlash.f k a0 = some r) :
    Calls Try.prog 8 #[.string a0] w fun e w' => e = .returned (.int .i64 r) ∧ Drawn0 w w' := by
  have H : (spec_LastSlash.l0 k a0 (wrap64 ((a0.size : Int) - 1))) = some r := h
  clear h
  have H' := Aside0.mk H
  clear H
  go_enter Try.func8, Try.ntmps8
  go_wp2
  go_loopg [3] k (fun kq v3 w' => ∃ (x3_1 : Int), v3 = .int .i64 x3_1 ∧ Aside0 (spec_LastSlash.l0 kq a0 x3_1 = some r) ∧ Aside0 (kq ≤ k) ∧ Drawn0 w w')
  case atStart => exact ⟨(wrap64 ((a0.size : Int) - 1)), (by first | rfl | (simp; done) | (simp [*]; done)), H', ⟨Nat.le_refl _⟩, by repeat (first | exact Drawn0.refl _ | apply Drawn0.step)⟩
  case round =>
    clear H'
    obtain ⟨x3_1, rfl, HA, HK1, ⟨m1, rfl⟩⟩ := hrel
    cases gk with
    | zero => exact absurd HA.out (by simp [spec_LastSlash.l0])
    | succ k1 =>
      have H := HA.out
      clear HA
      simp only [spec_LastSlash.l0] at H
      by_cases c2 : x3_1 ≥ 0
      · rw [if_pos c2] at H
        have c2b0 : decide (0 ≤ x3_1) = true := decide_eq_true c2
        clear c2
        by_cases c3 : 0 ≤ x3_1
        · rw [if_pos c3] at H
          have c3b0 : decide (0 ≤ x3_1) = true := decide_eq_true c3
          clear c3
          by_cases c4 : x3_1 < (a0.size : Int)
          · rw [if_pos c4] at H
            have c4b0 : decide (x3_1 < (a0.size : Int)) = true := decide_eq_true c4
            clear c4
            by_cases c6 : (bt a0 x3_1) = 47
            · rw [if_pos c6] at H
              have c6b0 : ((bt a0 x3_1) == 47) = true := beq_iff_eq.mpr c6
              have c6b1 : ((bt a0 x3_1) != 47) = false := bne_eq_false_iff_eq.mpr c6
              clear c6
              obtain rfl := Option.some.inj H
              have p5 : 0 ≤ (x3_1 : Int) := of_decide_eq_true (by first | (with_reducible assumption) | assumption)
              have q5 : x3_1 < (a0.size : Int) := of_decide_eq_true (by first | (with_reducible assumption) | assumption)
              have hx5 := bt_at a0 x3_1
              replace p5 := eq_true p5
              replace q5 := eq_true q5
              go_wp2
              go_ret
              exact ⟨by first | rfl | (simp; done) | (simp [*]; done), by repeat (first | exact Drawn0.refl _ | apply Drawn0.step)⟩
            · rw [if_neg c6] at H
              have c6b0 : ((bt a0 x3_1) == 47) = false := beq_eq_false_iff_ne.mpr c6
              have c6b1 : ((bt a0 x3_1) != 47) = true := bne_iff_ne.mpr c6
              have H' := Aside0.mk H
              clear H
              have p5 : 0 ≤ (x3_1 : Int) := of_decide_eq_true (by first | (with_reducible assumption) | assumption)
              have q5 : x3_1 < (a0.size : Int) := of_decide_eq_true (by first | (with_reducible assumption) | assumption)
              have hx5 := bt_at a0 x3_1
              replace p5 := eq_true p5
              replace q5 := eq_true q5
              go_wp2
              go_roundg k1
              case measure => have := HK1.out; omega
              case rel => exact ⟨(wrap64 (x3_1 - 1)), (by first | rfl | (simp; done) | (simp [*]; done)), H', ⟨by have := HK1.out; omega⟩, by repeat (first | exact Drawn0.refl _ | apply Drawn0.step)⟩
          · rw [if_neg c4] at H
            exact absurd H (by simp)
        · rw [if_neg c3] at H
          exact absurd H (by simp)
      · rw [if_neg c2] at H
        have c2b0 : decide (0 ≤ x3_1) = false := decide_eq_false c2
        clear c2
        obtain rfl := Option.some.inj H
        go_wp2
        go_ret
        exact ⟨by first | rfl | (simp; done) | (simp [*]; done), by repeat (first | exact Drawn0.refl _ | apply Drawn0.step)⟩

/-! ### laws_FnBucketBack: function 4 -/
mutual
def laws_FnBucketBack.j0 : Nat → ByteArray → ByteArray → ByteArray → Bool → Option (Bool)
  | 0, _, _, _, _ => none
  | k + 1, x0, x1, x2, x21 => if x21 = true then (some true) else (if (x0.size : Int) > 5000 then (laws_FnBucketBack.j1 k x0 x1 x2 true) else (if (x1.size : Int) > 5000 then (laws_FnBucketBack.j1 k x0 x1 x2 true) else (laws_FnBucketBack.j1 k x0 x1 x2 (decide ((x2.size : Int) > 5000)))))
def laws_FnBucketBack.j1 : Nat → ByteArray → ByteArray → ByteArray → Bool → Option (Bool)
  | 0, _, _, _, _ => none
  | k + 1, x0, x1, x2, x34 => if x34 = true then (some true) else ((impl_BucketJoin.f x0 x1).bind fun t105 => ((impl_BucketJoin.f t105 x2).bind fun t106 => ((impl_BucketJoin.f x1 x2).bind fun t107 => ((impl_BucketJoin.f x0 t107).bind fun t108 => (if t106.toList = t108.toList then ((impl_BucketJoin.f (⟨#[97]⟩ : ByteArray) (⟨#[98]⟩ : ByteArray)).bind fun t109 => (laws_FnBucketBack.j2 k x0 x1 (t109.toList != ([97, 47, 98] : List UInt8)))) else (laws_FnBucketBack.j2 k x0 x1 true))))))
def laws_FnBucketBack.j2 : Nat → ByteArray → ByteArray → Bool → Option (Bool)
  | 0, _, _, _ => none
  | k + 1, x0, x1, x49 => if x49 = true then (some false) else (if x0.toList = ([] : List UInt8) then (laws_FnBucketBack.j3 k x0 x1 true) else ((spec_LastSlash.f k x0).bind fun t110 => (laws_FnBucketBack.j3 k x0 x1 (decide (t110 ≥ 0)))))
def laws_FnBucketBack.j3 : Nat → ByteArray → ByteArray → Bool → Option (Bool)
  | 0, _, _, _ => none
  | k + 1, x0, x1, x56 => if x56 = true then (some true) else ((impl_BucketJoin.f x0 x1).bind fun t111 => ((impl_BucketSplit.f t111).bind fun bt112 => (if bt112.1.toList = x0.toList then (some (bt112.2.toList == x1.toList)) else (some false))))
end
def laws_FnBucketBack.f (k : Nat) (a0 : ByteArray) (a1 : ByteArray) (a2 : ByteArray) : Option (Bool) := if (a0.size : Int) > 2147483647 then (laws_FnBucketBack.j0 k a0 a1 a2 true) else (if (a1.size : Int) > 2147483647 then (laws_FnBucketBack.j0 k a0 a1 a2 true) else (laws_FnBucketBack.j0 k a0 a1 a2 (decide ((a2.size : Int) > 2147483647))))
theorem laws_FnBucketBack.mono_l : ∀ k, (∀ y0 y1 y2 y3, LeO (laws_FnBucketBack.j0 k y0 y1 y2 y3) (laws_FnBucketBack.j0 (k + 1) y0 y1 y2 y3)) ∧ (∀ y0 y1 y2 y3, LeO (laws_FnBucketBack.j1 k y0 y1 y2 y3) (laws_FnBucketBack.j1 (k + 1) y0 y1 y2 y3)) ∧ (∀ y0 y1 y2, LeO (laws_FnBucketBack.j2 k y0 y1 y2) (laws_FnBucketBack.j2 (k + 1) y0 y1 y2)) ∧ (∀ y0 y1 y2, LeO (laws_FnBucketBack.j3 k y0 y1 y2) (laws_FnBucketBack.j3 (k + 1) y0 y1 y2))
  | 0 => ⟨fun _ _ _ _ r h => by simp [laws_FnBucketBack.j0] at h, fun _ _ _ _ r h => by simp [laws_FnBucketBack.j1] at h, fun _ _ _ r h => by simp [laws_FnBucketBack.j2] at h, fun _ _ _ r h => by simp [laws_FnBucketBack.j3] at h⟩
  | k + 1 => by
    obtain ⟨ih0, ih1, ih2, ih3⟩ := laws_FnBucketBack.mono_l k
    refine ⟨?_, ?_, ?_, ?_⟩
    · intro y0 y1 y2 y3
      unfold laws_FnBucketBack.j0
      repeat' first
      | (with_reducible exact ih0 _ _ _ _)
      | (with_reducible exact ih1 _ _ _ _)
      | (with_reducible exact ih2 _ _ _)
      | (with_reducible exact ih3 _ _ _)
      | (with_reducible exact spec_LastSlash.mono _ _)
      | (with_reducible exact LeO.refl _)
      | (with_reducible exact LeO.none _)
      | (with_reducible refine LeO.ite ?_ ?_)
      | (with_reducible refine LeO.bind ?_ (fun _ => ?_))
      | exact ih0 _ _ _ _
      | exact ih1 _ _ _ _
      | exact ih2 _ _ _
      | exact ih3 _ _ _
      | exact spec_LastSlash.mono _ _
      | exact LeO.none _
      | refine LeO.ite ?_ ?_
      | refine LeO.bind ?_ (fun _ => ?_)
    · intro y0 y1 y2 y3
      unfold laws_FnBucketBack.j1
      repeat' first
      | (with_reducible exact ih0 _ _ _ _)
      | (with_reducible exact ih1 _ _ _ _)
      | (with_reducible exact ih2 _ _ _)
      | (with_reducible exact ih3 _ _ _)
      | (with_reducible exact spec_LastSlash.mono _ _)
      | (with_reducible exact LeO.refl _)
      | (with_reducible exact LeO.none _)
      | (with_reducible refine LeO.ite ?_ ?_)
      | (with_reducible refine LeO.bind ?_ (fun _ => ?_))
      | exact ih0 _ _ _ _
      | exact ih1 _ _ _ _
      | exact ih2 _ _ _
      | exact ih3 _ _ _
      | exact spec_LastSlash.mono _ _
      | exact LeO.none _
      | refine LeO.ite ?_ ?_
      | refine LeO.bind ?_ (fun _ => ?_)
    · intro y0 y1 y2
      unfold laws_FnBucketBack.j2
      repeat' first
      | (with_reducible exact ih0 _ _ _ _)
      | (with_reducible exact ih1 _ _ _ _)
      | (with_reducible exact ih2 _ _ _)
      | (with_reducible exact ih3 _ _ _)
      | (with_reducible exact spec_LastSlash.mono _ _)
      | (with_reducible exact LeO.refl _)
      | (with_reducible exact LeO.none _)
      | (with_reducible refine LeO.ite ?_ ?_)
      | (with_reducible refine LeO.bind ?_ (fun _ => ?_))
      | exact ih0 _ _ _ _
      | exact ih1 _ _ _ _
      | exact ih2 _ _ _
      | exact ih3 _ _ _
      | exact spec_LastSlash.mono _ _
      | exact LeO.none _
      | refine LeO.ite ?_ ?_
      | refine LeO.bind ?_ (fun _ => ?_)
    · intro y0 y1 y2
      unfold laws_FnBucketBack.j3
      repeat' first
      | (with_reducible exact ih0 _ _ _ _)
      | (with_reducible exact ih1 _ _ _ _)
      | (with_reducible exact ih2 _ _ _)
      | (with_reducible exact ih3 _ _ _)
      | (with_reducible exact spec_LastSlash.mono _ _)
      | (with_reducible exact LeO.refl _)
      | (with_reducible exact LeO.none _)
      | (with_reducible refine LeO.ite ?_ ?_)
      | (with_reducible refine LeO.bind ?_ (fun _ => ?_))
      | exact ih0 _ _ _ _
      | exact ih1 _ _ _ _
      | exact ih2 _ _ _
      | exact ih3 _ _ _
      | exact spec_LastSlash.mono _ _
      | exact LeO.none _
      | refine LeO.ite ?_ ?_
      | refine LeO.bind ?_ (fun _ => ?_)
theorem laws_FnBucketBack.mono : ∀ a0 a1 a2 k, LeO (laws_FnBucketBack.f k a0 a1 a2) (laws_FnBucketBack.f (k + 1) a0 a1 a2) := by
  intro a0 a1 a2 k
  obtain ⟨ih0, ih1, ih2, ih3⟩ := laws_FnBucketBack.mono_l k
  unfold laws_FnBucketBack.f
  repeat' first
      | (with_reducible exact ih0 _ _ _ _)
      | (with_reducible exact ih1 _ _ _ _)
      | (with_reducible exact ih2 _ _ _)
      | (with_reducible exact ih3 _ _ _)
      | (with_reducible exact spec_LastSlash.mono _ _)
      | (with_reducible exact LeO.refl _)
      | (with_reducible exact LeO.none _)
      | (with_reducible refine LeO.ite ?_ ?_)
      | (with_reducible refine LeO.bind ?_ (fun _ => ?_))
      | exact ih0 _ _ _ _
      | exact ih1 _ _ _ _
      | exact ih2 _ _ _
      | exact ih3 _ _ _
      | exact spec_LastSlash.mono _ _
      | exact LeO.none _
      | refine LeO.ite ?_ ?_
      | refine LeO.bind ?_ (fun _ => ?_)
set_option maxHeartbeats 8000000 in
set_option maxRecDepth 100000 in
theorem laws_FnBucketBack.calls (k : Nat) (a0 : ByteArray) (a1 : ByteArray) (a2 : ByteArray) (r : Bool) (w : World) (h : laws_FnBucketBack.f k a0 a1 a2 = some r) :
    Calls Try.prog 4 #[.string a0, .string a1, .string a2] w fun e w' => e = .returned (.bool r) ∧ Below w.heap.size w w' := by
  have HB := Aside0.mk (Below.refl w.heap.size w)
  have H : (if (a0.size : Int) > 2147483647 then (laws_FnBucketBack.j0 k a0 a1 a2 true) else (if (a1.size : Int) > 2147483647 then (laws_FnBucketBack.j0 k a0 a1 a2 true) else (laws_FnBucketBack.j0 k a0 a1 a2 (decide ((a2.size : Int) > 2147483647))))) = some r := h
  clear h
  have HC4 := Aside0.mk H
  clear H
  go_enter Try.func4, Try.ntmps4
  go_upto_region 1 with (fail)
  go_cut [21] (fun v21 wc => ∃ (kq : Nat) (x21_3 : Bool), v21 = .bool x21_3 ∧ Aside0 (laws_FnBucketBack.j0 kq a0 a1 a2 x21_3 = some r) ∧ Aside0 (kq ≤ k) ∧ Aside0 (Below w.heap.size w wc))
  case first =>
    have H := HC4.out
    clear HC4
    by_cases c5 : (a0.size : Int) > 2147483647
    · rw [if_pos c5] at H
      have c5b0 : decide (2147483647 < (a0.size : Int)) = true := decide_eq_true c5
      have c5b1 : decide (2147483647 < a0.size) = true := decide_eq_true (by omega)
      clear c5
      (first | rw [c5b0] | (simp only [i64_w, i32_w]; rw [c5b0]) | skip)
      have H' := Aside0.mk H
      clear H
      go_wp2
      go_meet
      case rel => exact ⟨_, (true), (by first | rfl | (simp; done) | (simp [*]; done)), H', ⟨by first | omega | exact Nat.le_refl _⟩, ⟨by repeat (first | (with_reducible first | exact HB.out | apply below_alloc | apply pw_below_drewN | apply below_drew1) | exact HB.out)⟩⟩
    · rw [if_neg c5] at H
      have c5b0 : decide (2147483647 < (a0.size : Int)) = false := decide_eq_false c5
      have c5b1 : decide (2147483647 < a0.size) = false := decide_eq_false (by omega)
      clear c5
      (first | rw [c5b0] | (simp only [i64_w, i32_w]; rw [c5b0]) | skip)
      by_cases c6 : (a1.size : Int) > 2147483647
      · rw [if_pos c6] at H
        have c6b0 : decide (2147483647 < (a1.size : Int)) = true := decide_eq_true c6
        have c6b1 : decide (2147483647 < a1.size) = true := decide_eq_true (by omega)
        clear c6
        have H' := Aside0.mk H
        clear H
        go_wp2
        go_meet
        case rel => exact ⟨_, (true), (by first | rfl | (simp; done) | (simp [*]; done)), H', ⟨by first | omega | exact Nat.le_refl _⟩, ⟨by repeat (first | (with_reducible first | exact HB.out | apply below_alloc | apply pw_below_drewN | apply below_drew1) | exact HB.out)⟩⟩
      · rw [if_neg c6] at H
        have c6b0 : decide (2147483647 < (a1.size : Int)) = false := decide_eq_false c6
        have c6b1 : decide (2147483647 < a1.size) = false := decide_eq_false (by omega)
        clear c6
        have H' := Aside0.mk H
        clear H
        go_wp2
        go_meet
        case rel => exact ⟨_, (decide ((a2.size : Int) > 2147483647)), (by first | rfl | (simp; done) | (simp [*]; done)), H', ⟨by first | omega | exact Nat.le_refl _⟩, ⟨by repeat (first | (with_reducible first | exact HB.out | apply below_alloc | apply pw_below_drewN | apply below_drew1) | exact HB.out)⟩⟩
  case rest =>
    clear HC4
    try clear p2
    try clear c4
    try clear c5
    try clear c5b0
    try clear c5b1
    try clear c6
    try clear c6b0
    try clear c6b1
    obtain ⟨kq, x21_3, rfl, HA, HJ3, HB⟩ := hcut
    cases kq with
    | zero => exact absurd HA.out (by simp [laws_FnBucketBack.j0])
    | succ kj3 =>
      have H := HA.out
      clear HA
      simp only [laws_FnBucketBack.j0] at H
      by_cases c7 : x21_3 = true
      · subst c7
        have H1 : (some true) = some r := by rw [if_pos rfl] at H; exact H
        clear H
        have H := H1
        clear H1
        obtain rfl := Option.some.inj H
        go_wp2
        go_ret
        exact ⟨by first | rfl | (simp [errW_none, errW_some] <;> rfl) | (simp [*, errW_none, errW_some] <;> rfl), by repeat (first | (with_reducible first | exact HB.out | apply below_alloc | apply pw_below_drewN | apply below_drew1) | exact HB.out)⟩
      · replace c7 := Bool.eq_false_iff.mpr c7
        subst c7
        have H1 : (if (a0.size : Int) > 5000 then (laws_FnBucketBack.j1 kj3 a0 a1 a2 true) else (if (a1.size : Int) > 5000 then (laws_FnBucketBack.j1 kj3 a0 a1 a2 true) else (laws_FnBucketBack.j1 kj3 a0 a1 a2 (decide ((a2.size : Int) > 5000))))) = some r := by rw [if_neg (show ¬ (false = true) by decide)] at H; exact H
        clear H
        have H := H1
        clear H1
        have HC8 := Aside0.mk H
        clear H
        go_upto_region 3 with (fail)
        go_cut [34] (fun v34 wc => ∃ (kq : Nat) (x34_7 : Bool), v34 = .bool x34_7 ∧ Aside0 (laws_FnBucketBack.j1 kq a0 a1 a2 x34_7 = some r) ∧ Aside0 (kq ≤ kj3) ∧ Aside0 (Below w.heap.size w wc))
        case first =>
          have H := HC8.out
          clear HC8
          by_cases c9 : (a0.size : Int) > 5000
          · rw [if_pos c9] at H
            have c9b0 : decide (5000 < (a0.size : Int)) = true := decide_eq_true c9
            have c9b1 : decide (5000 < a0.size) = true := decide_eq_true (by omega)
            clear c9
            (first | rw [c9b0] | (simp only [i64_w, i32_w]; rw [c9b0]) | skip)
            have H' := Aside0.mk H
            clear H
            go_wp2
            go_meet
            case rel => exact ⟨_, (true), (by first | rfl | (simp; done) | (simp [*]; done)), H', ⟨by have := HJ3.out; first | omega | exact Nat.le_refl _⟩, ⟨by repeat (first | (with_reducible first | exact HB.out | apply below_alloc | apply pw_below_drewN | apply below_drew1) | exact HB.out)⟩⟩
          · rw [if_neg c9] at H
            have c9b0 : decide (5000 < (a0.size : Int)) = false := decide_eq_false c9
            have c9b1 : decide (5000 < a0.size) = false := decide_eq_false (by omega)
            clear c9
            (first | rw [c9b0] | (simp only [i64_w, i32_w]; rw [c9b0]) | skip)
            by_cases c10 : (a1.size : Int) > 5000
            · rw [if_pos c10] at H
              have c10b0 : decide (5000 < (a1.size : Int)) = true := decide_eq_true c10
              have c10b1 : decide (5000 < a1.size) = true := decide_eq_true (by omega)
              clear c10
              have H' := Aside0.mk H
              clear H
              go_wp2
              go_meet
              case rel => exact ⟨_, (true), (by first | rfl | (simp; done) | (simp [*]; done)), H', ⟨by have := HJ3.out; first | omega | exact Nat.le_refl _⟩, ⟨by repeat (first | (with_reducible first | exact HB.out | apply below_alloc | apply pw_below_drewN | apply below_drew1) | exact HB.out)⟩⟩
            · rw [if_neg c10] at H
              have c10b0 : decide (5000 < (a1.size : Int)) = false := decide_eq_false c10
              have c10b1 : decide (5000 < a1.size) = false := decide_eq_false (by omega)
              clear c10
              have H' := Aside0.mk H
              clear H
              go_wp2
              go_meet
              case rel => exact ⟨_, (decide ((a2.size : Int) > 5000)), (by first | rfl | (simp; done) | (simp [*]; done)), H', ⟨by have := HJ3.out; first | omega | exact Nat.le_refl _⟩, ⟨by repeat (first | (with_reducible first | exact HB.out | apply below_alloc | apply pw_below_drewN | apply below_drew1) | exact HB.out)⟩⟩
        case rest =>
          clear HC8
          try clear c1
          try clear p2
          try clear c4
          try clear c5
          try clear c5b0
          try clear c5b1
          try clear c6
          try clear c6b0
          try clear c6b1
          try clear c7
          try clear c9
          try clear c9b0
          try clear c9b1
          try clear c10
          try clear c10b0
          try clear c10b1
          try clear p2
          obtain ⟨kq, x34_7, rfl, HA, HJ7, HB⟩ := hcut
          cases kq with
          | zero => exact absurd HA.out (by simp [laws_FnBucketBack.j1])
          | succ kj7 =>
            have H := HA.out
            clear HA
            simp only [laws_FnBucketBack.j1] at H
            by_cases c11 : x34_7 = true
            · subst c11
              have H1 : (some true) = some r := by rw [if_pos rfl] at H; exact H
              clear H
              have H := H1
              clear H1
              obtain rfl := Option.some.inj H
              go_wp2
              go_ret
              exact ⟨by first | rfl | (simp [errW_none, errW_some] <;> rfl) | (simp [*, errW_none, errW_some] <;> rfl), by repeat (first | (with_reducible first | exact HB.out | apply below_alloc | apply pw_below_drewN | apply below_drew1) | exact HB.out)⟩
            · replace c11 := Bool.eq_false_iff.mpr c11
              subst c11
              have H1 : ((impl_BucketJoin.f a0 a1).bind fun t105 => ((impl_BucketJoin.f t105 a2).bind fun t106 => ((impl_BucketJoin.f a1 a2).bind fun t107 => ((impl_BucketJoin.f a0 t107).bind fun t108 => (if t106.toList = t108.toList then ((impl_BucketJoin.f (⟨#[97]⟩ : ByteArray) (⟨#[98]⟩ : ByteArray)).bind fun t109 => (laws_FnBucketBack.j2 kj7 a0 a1 (t109.toList != ([97, 47, 98] : List UInt8)))) else (laws_FnBucketBack.j2 kj7 a0 a1 true)))))) = some r := by rw [if_neg (show ¬ (false = true) by decide)] at H; exact H
              clear H
              have H := H1
              clear H1
              have HC12 := Aside0.mk H
              clear H
              go_upto_region 5 with (fail)
              go_cut [49] (fun v49 wc => ∃ (kq : Nat) (x49_11 : Bool), v49 = .bool x49_11 ∧ Aside0 (laws_FnBucketBack.j2 kq a0 a1 x49_11 = some r) ∧ Aside0 (kq ≤ kj7) ∧ Aside0 (Below w.heap.size w wc))
              case first =>
                have H := HC12.out
                clear HC12
                replace H := Option.bind_eq_some_iff.mp H
                obtain ⟨t105, A130, H⟩ := H
                replace H : ((impl_BucketJoin.f t105 a2).bind fun t106 => ((impl_BucketJoin.f a1 a2).bind fun t107 => ((impl_BucketJoin.f a0 t107).bind fun t108 => (if t106.toList = t108.toList then ((impl_BucketJoin.f (⟨#[97]⟩ : ByteArray) (⟨#[98]⟩ : ByteArray)).bind fun t109 => (laws_FnBucketBack.j2 kj7 a0 a1 (t109.toList != ([97, 47, 98] : List UInt8)))) else (laws_FnBucketBack.j2 kj7 a0 a1 true))))) = some r := H
                have A13 := Aside0.mk A130
                clear A130
                replace H := Option.bind_eq_some_iff.mp H
                obtain ⟨t106, A140, H⟩ := H
                replace H : ((impl_BucketJoin.f a1 a2).bind fun t107 => ((impl_BucketJoin.f a0 t107).bind fun t108 => (if t106.toList = t108.toList then ((impl_BucketJoin.f (⟨#[97]⟩ : ByteArray) (⟨#[98]⟩ : ByteArray)).bind fun t109 => (laws_FnBucketBack.j2 kj7 a0 a1 (t109.toList != ([97, 47, 98] : List UInt8)))) else (laws_FnBucketBack.j2 kj7 a0 a1 true)))) = some r := H
                have A14 := Aside0.mk A140
                clear A140
                replace H := Option.bind_eq_some_iff.mp H
                obtain ⟨t107, A150, H⟩ := H
                replace H : ((impl_BucketJoin.f a0 t107).bind fun t108 => (if t106.toList = t108.toList then ((impl_BucketJoin.f (⟨#[97]⟩ : ByteArray) (⟨#[98]⟩ : ByteArray)).bind fun t109 => (laws_FnBucketBack.j2 kj7 a0 a1 (t109.toList != ([97, 47, 98] : List UInt8)))) else (laws_FnBucketBack.j2 kj7 a0 a1 true))) = some r := H
                have A15 := Aside0.mk A150
                clear A150
                replace H := Option.bind_eq_some_iff.mp H
                obtain ⟨t108, A160, H⟩ := H
                replace H : (if t106.toList = t108.toList then ((impl_BucketJoin.f (⟨#[97]⟩ : ByteArray) (⟨#[98]⟩ : ByteArray)).bind fun t109 => (laws_FnBucketBack.j2 kj7 a0 a1 (t109.toList != ([97, 47, 98] : List UInt8)))) else (laws_FnBucketBack.j2 kj7 a0 a1 true)) = some r := H
                have A16 := Aside0.mk A160
                clear A160
                by_cases c17 : t106.toList = t108.toList
                · rw [if_pos c17] at H
                  have c17b0 : (t106.toList == t108.toList) = true := beq_iff_eq.mpr c17
                  have c17b1 : (t106.toList != t108.toList) = false := bne_eq_false_iff_eq.mpr c17
                  clear c17
                  (first | rw [c17b0] | (simp only [i64_w, i32_w]; rw [c17b0]) | skip)
                  replace H := Option.bind_eq_some_iff.mp H
                  obtain ⟨t109, A180, H⟩ := H
                  replace H : (laws_FnBucketBack.j2 kj7 a0 a1 (t109.toList != ([97, 47, 98] : List UInt8))) = some r := H
                  have A18 := Aside0.mk A180
                  clear A180
                  have H' := Aside0.mk H
                  clear H
                  go_wp2_with (first | ((with_reducible refine gate_callee (f := 7) rfl ?_); refine goesL_ (some 37) rfl rfl Try.func7 (by kernel_rfl) rfl #[.string a0, .string a1] rfl (by (try simp only [List.map_toArray, List.map_cons, List.map_nil]); first | done | rfl | (simp only [List.length_drop, List.length_take]; rfl)) ?_; (with_reducible refine (impl_BucketJoin.calls a0 a1 t105 _ A13.out).mono ?_); rintro e w' ⟨rfl, ⟨nd, rfl⟩⟩; refine ⟨_, rfl, ?_⟩) | ((with_reducible refine gate_callee (f := 7) rfl ?_); refine goesL_ (some 39) rfl rfl Try.func7 (by kernel_rfl) rfl #[.string t105, .string a2] rfl (by (try simp only [List.map_toArray, List.map_cons, List.map_nil]); first | done | rfl | (simp only [List.length_drop, List.length_take]; rfl)) ?_; (with_reducible refine (impl_BucketJoin.calls t105 a2 t106 _ A14.out).mono ?_); rintro e w' ⟨rfl, ⟨nd, rfl⟩⟩; refine ⟨_, rfl, ?_⟩) | ((with_reducible refine gate_callee (f := 7) rfl ?_); refine goesL_ (some 43) rfl rfl Try.func7 (by kernel_rfl) rfl #[.string a1, .string a2] rfl (by (try simp only [List.map_toArray, List.map_cons, List.map_nil]); first | done | rfl | (simp only [List.length_drop, List.length_take]; rfl)) ?_; (with_reducible refine (impl_BucketJoin.calls a1 a2 t107 _ A15.out).mono ?_); rintro e w' ⟨rfl, ⟨nd, rfl⟩⟩; refine ⟨_, rfl, ?_⟩) | ((with_reducible refine gate_callee (f := 7) rfl ?_); refine goesL_ (some 44) rfl rfl Try.func7 (by kernel_rfl) rfl #[.string a0, .string t107] rfl (by (try simp only [List.map_toArray, List.map_cons, List.map_nil]); first | done | rfl | (simp only [List.length_drop, List.length_take]; rfl)) ?_; (with_reducible refine (impl_BucketJoin.calls a0 t107 t108 _ A16.out).mono ?_); rintro e w' ⟨rfl, ⟨nd, rfl⟩⟩; refine ⟨_, rfl, ?_⟩) | (go_at_call 7; (with_reducible refine (impl_BucketJoin.calls (⟨#[97]⟩ : ByteArray) (⟨#[98]⟩ : ByteArray) t109 _ A18.out).mono ?_); rintro e w' ⟨rfl, ⟨nd, rfl⟩⟩))
                  go_meet
                  case rel => exact ⟨_, ((t109.toList != ([97, 47, 98] : List UInt8))), (by first | rfl | (simp; done) | (simp [*]; done)), H', ⟨by have := HJ3.out; have := HJ7.out; first | omega | exact Nat.le_refl _⟩, ⟨by repeat (first | (with_reducible first | exact HB.out | apply below_alloc | apply pw_below_drewN | apply below_drew1) | exact HB.out)⟩⟩
                · rw [if_neg c17] at H
                  have c17b0 : (t106.toList == t108.toList) = false := beq_eq_false_iff_ne.mpr c17
                  have c17b1 : (t106.toList != t108.toList) = true := bne_iff_ne.mpr c17
                  (first | rw [c17b0] | (simp only [i64_w, i32_w]; rw [c17b0]) | skip)
                  have H' := Aside0.mk H
                  clear H
                  go_wp2_with (first | ((with_reducible refine gate_callee (f := 7) rfl ?_); refine goesL_ (some 37) rfl rfl Try.func7 (by kernel_rfl) rfl #[.string a0, .string a1] rfl (by (try simp only [List.map_toArray, List.map_cons, List.map_nil]); first | done | rfl | (simp only [List.length_drop, List.length_take]; rfl)) ?_; (with_reducible refine (impl_BucketJoin.calls a0 a1 t105 _ A13.out).mono ?_); rintro e w' ⟨rfl, ⟨nd, rfl⟩⟩; refine ⟨_, rfl, ?_⟩) | ((with_reducible refine gate_callee (f := 7) rfl ?_); refine goesL_ (some 39) rfl rfl Try.func7 (by kernel_rfl) rfl #[.string t105, .string a2] rfl (by (try simp only [List.map_toArray, List.map_cons, List.map_nil]); first | done | rfl | (simp only [List.length_drop, List.length_take]; rfl)) ?_; (with_reducible refine (impl_BucketJoin.calls t105 a2 t106 _ A14.out).mono ?_); rintro e w' ⟨rfl, ⟨nd, rfl⟩⟩; refine ⟨_, rfl, ?_⟩) | ((with_reducible refine gate_callee (f := 7) rfl ?_); refine goesL_ (some 43) rfl rfl Try.func7 (by kernel_rfl) rfl #[.string a1, .string a2] rfl (by (try simp only [List.map_toArray, List.map_cons, List.map_nil]); first | done | rfl | (simp only [List.length_drop, List.length_take]; rfl)) ?_; (with_reducible refine (impl_BucketJoin.calls a1 a2 t107 _ A15.out).mono ?_); rintro e w' ⟨rfl, ⟨nd, rfl⟩⟩; refine ⟨_, rfl, ?_⟩) | ((with_reducible refine gate_callee (f := 7) rfl ?_); refine goesL_ (some 44) rfl rfl Try.func7 (by kernel_rfl) rfl #[.string a0, .string t107] rfl (by (try simp only [List.map_toArray, List.map_cons, List.map_nil]); first | done | rfl | (simp only [List.length_drop, List.length_take]; rfl)) ?_; (with_reducible refine (impl_BucketJoin.calls a0 t107 t108 _ A16.out).mono ?_); rintro e w' ⟨rfl, ⟨nd, rfl⟩⟩; refine ⟨_, rfl, ?_⟩))
                  go_meet
                  case rel => exact ⟨_, (true), (by first | rfl | (simp; done) | (simp [*]; done)), H', ⟨by have := HJ3.out; have := HJ7.out; first | omega | exact Nat.le_refl _⟩, ⟨by repeat (first | (with_reducible first | exact HB.out | apply below_alloc | apply pw_below_drewN | apply below_drew1) | exact HB.out)⟩⟩
              case rest =>
                clear HC12
                try clear c1
                try clear p2
                try clear c4
                try clear c5
                try clear c5b0
                try clear c5b1
                try clear c6
                try clear c6b0
                try clear c6b1
                try clear c7
                try clear c9
                try clear c9b0
                try clear c9b1
                try clear c10
                try clear c10b0
                try clear c10b1
                try clear c11
                try clear c17
                try clear c17b0
                try clear c17b1
                try clear p2
                obtain ⟨kq, x49_11, rfl, HA, HJ11, HB⟩ := hcut
                cases kq with
                | zero => exact absurd HA.out (by simp [laws_FnBucketBack.j2])
                | succ kj11 =>
                  have H := HA.out
                  clear HA
                  simp only [laws_FnBucketBack.j2] at H
                  by_cases c19 : x49_11 = true
                  · subst c19
                    have H1 : (some false) = some r := by rw [if_pos rfl] at H; exact H
                    clear H
                    have H := H1
                    clear H1
                    obtain rfl := Option.some.inj H
                    go_wp2
                    go_ret
                    exact ⟨by first | rfl | (simp [errW_none, errW_some] <;> rfl) | (simp [*, errW_none, errW_some] <;> rfl), by repeat (first | (with_reducible first | exact HB.out | apply below_alloc | apply pw_below_drewN | apply below_drew1) | exact HB.out)⟩
                  · replace c19 := Bool.eq_false_iff.mpr c19
                    subst c19
                    have H1 : (if a0.toList = ([] : List UInt8) then (laws_FnBucketBack.j3 kj11 a0 a1 true) else ((spec_LastSlash.f kj11 a0).bind fun t110 => (laws_FnBucketBack.j3 kj11 a0 a1 (decide (t110 ≥ 0))))) = some r := by rw [if_neg (show ¬ (false = true) by decide)] at H; exact H
                    clear H
                    have H := H1
                    clear H1
                    have HC20 := Aside0.mk H
                    clear H
                    go_upto_region 7 with (fail)
                    go_cut [56] (fun v56 wc => ∃ (kq : Nat) (x56_19 : Bool), v56 = .bool x56_19 ∧ Aside0 (laws_FnBucketBack.j3 kq a0 a1 x56_19 = some r) ∧ Aside0 (kq ≤ kj11) ∧ Aside0 (Below w.heap.size w wc))
                    case first =>
                      have H := HC20.out
                      clear HC20
                      by_cases c21 : a0.toList = ([] : List UInt8)
                      · rw [if_pos c21] at H
                        have c21b0 : (a0.toList == ([] : List UInt8)) = true := beq_iff_eq.mpr c21
                        have c21b1 : (a0.toList != ([] : List UInt8)) = false := bne_eq_false_iff_eq.mpr c21
                        clear c21
                        (first | rw [c21b0] | (simp only [i64_w, i32_w]; rw [c21b0]) | skip)
                        have H' := Aside0.mk H
                        clear H
                        go_wp2
                        go_meet
                        case rel => exact ⟨_, (true), (by first | rfl | (simp; done) | (simp [*]; done)), H', ⟨by have := HJ3.out; have := HJ7.out; have := HJ11.out; first | omega | exact Nat.le_refl _⟩, ⟨by repeat (first | (with_reducible first | exact HB.out | apply below_alloc | apply pw_below_drewN | apply below_drew1) | exact HB.out)⟩⟩
                      · rw [if_neg c21] at H
                        have c21b0 : (a0.toList == ([] : List UInt8)) = false := beq_eq_false_iff_ne.mpr c21
                        have c21b1 : (a0.toList != ([] : List UInt8)) = true := bne_iff_ne.mpr c21
                        (first | rw [c21b0] | (simp only [i64_w, i32_w]; rw [c21b0]) | skip)
                        replace H := Option.bind_eq_some_iff.mp H
                        obtain ⟨t110, A220, H⟩ := H
                        replace H : (laws_FnBucketBack.j3 kj11 a0 a1 (decide (t110 ≥ 0))) = some r := H
                        have A22 := Aside0.mk A220
                        clear A220
                        have H' := Aside0.mk H
                        clear H
                        go_wp2_with (first | (go_at_call 8; (with_reducible refine (spec_LastSlash.calls kj11 a0 t110 _ A22.out).mono ?_); rintro e w' ⟨rfl, ⟨nd, rfl⟩⟩))
                        go_meet
                        case rel => exact ⟨_, (decide (t110 ≥ 0)), (by first | rfl | (simp; done) | (simp [*]; done)), H', ⟨by have := HJ3.out; have := HJ7.out; have := HJ11.out; first | omega | exact Nat.le_refl _⟩, ⟨by repeat (first | (with_reducible first | exact HB.out | apply below_alloc | apply pw_below_drewN | apply below_drew1) | exact HB.out)⟩⟩
                    case rest =>
                      clear HC20
                      try clear c1
                      try clear c2
                      try clear p2
                      try clear c4
                      try clear c5
                      try clear c5b0
                      try clear c5b1
                      try clear c6
                      try clear c6b0
                      try clear c6b1
                      try clear c7
                      try clear c9
                      try clear c9b0
                      try clear c9b1
                      try clear c10
                      try clear c10b0
                      try clear c10b1
                      try clear c11
                      try clear c17
                      try clear c17b0
                      try clear c17b1
                      try clear c19
                      try clear c21
                      try clear c21b0
                      try clear c21b1
                      try clear p2
                      obtain ⟨kq, x56_19, rfl, HA, HJ19, HB⟩ := hcut
                      cases kq with
                      | zero => exact absurd HA.out (by simp [laws_FnBucketBack.j3])
                      | succ kj19 =>
                        have H := HA.out
                        clear HA
                        simp only [laws_FnBucketBack.j3] at H
                        by_cases c23 : x56_19 = true
                        · subst c23
                          have H1 : (some true) = some r := by rw [if_pos rfl] at H; exact H
                          clear H
                          have H := H1
                          clear H1
                          obtain rfl := Option.some.inj H
                          go_wp2
                          go_ret
                          exact ⟨by first | rfl | (simp [errW_none, errW_some] <;> rfl) | (simp [*, errW_none, errW_some] <;> rfl), by repeat (first | (with_reducible first | exact HB.out | apply below_alloc | apply pw_below_drewN | apply below_drew1) | exact HB.out)⟩
                        · replace c23 := Bool.eq_false_iff.mpr c23
                          subst c23
                          have H1 : ((impl_BucketJoin.f a0 a1).bind fun t111 => ((impl_BucketSplit.f t111).bind fun bt112 => (if bt112.1.toList = a0.toList then (some (bt112.2.toList == a1.toList)) else (some false)))) = some r := by rw [if_neg (show ¬ (false = true) by decide)] at H; exact H
                          clear H
                          have H := H1
                          clear H1
                          replace H := Option.bind_eq_some_iff.mp H
                          obtain ⟨t111, A240, H⟩ := H
                          replace H : ((impl_BucketSplit.f t111).bind fun bt112 => (if bt112.1.toList = a0.toList then (some (bt112.2.toList == a1.toList)) else (some false))) = some r := H
                          have A24 := Aside0.mk A240
                          clear A240
                          replace H := Option.bind_eq_some_iff.mp H
                          obtain ⟨⟨t112, t113⟩, A250, H⟩ := H
                          replace H : (if t112.toList = a0.toList then (some (t113.toList == a1.toList)) else (some false)) = some r := H
                          have A25 := Aside0.mk A250
                          clear A250
                          by_cases c26 : t112.toList = a0.toList
                          · rw [if_pos c26] at H
                            have c26b0 : (t112.toList == a0.toList) = true := beq_iff_eq.mpr c26
                            have c26b1 : (t112.toList != a0.toList) = false := bne_eq_false_iff_eq.mpr c26
                            clear c26
                            obtain rfl := Option.some.inj H
                            go_wp2_with (first | ((with_reducible refine gate_callee (f := 7) rfl ?_); refine goesL_ (some 60) rfl rfl Try.func7 (by kernel_rfl) rfl #[.string a0, .string a1] rfl (by (try simp only [List.map_toArray, List.map_cons, List.map_nil]); first | done | rfl | (simp only [List.length_drop, List.length_take]; rfl)) ?_; (with_reducible refine (impl_BucketJoin.calls a0 a1 t111 _ A24.out).mono ?_); rintro e w' ⟨rfl, ⟨nd, rfl⟩⟩; refine ⟨_, rfl, ?_⟩) | ((with_reducible refine gate_callee (f := 5) rfl ?_); refine goesL_ (some 61) rfl rfl Try.func5 (by kernel_rfl) rfl #[.string t111] rfl (by (try simp only [List.map_toArray, List.map_cons, List.map_nil]); first | done | rfl | (simp only [List.length_drop, List.length_take]; rfl)) ?_; (with_reducible refine (impl_BucketSplit.calls t111 t112 t113 _ A25.out).mono ?_); rintro e w27 ⟨rfl, hb⟩; refine ⟨_, rfl, ?_⟩; have n0_ := Aside0.mk (below_step (by repeat (first | (with_reducible first | exact HB.out | apply below_alloc | apply pw_below_drewN | apply below_drew1) | exact HB.out)) hb); clear HB; have HB := n0_; clear n0_; (try clear hb); (try clear hb2); (try clear hk); (try clear hi)))
                            go_ret
                            exact ⟨by first | rfl | (simp [errW_none, errW_some] <;> rfl) | (simp [*, errW_none, errW_some] <;> rfl), by repeat (first | (with_reducible first | exact HB.out | apply below_alloc | apply pw_below_drewN | apply below_drew1) | exact HB.out)⟩
                          · rw [if_neg c26] at H
                            have c26b0 : (t112.toList == a0.toList) = false := beq_eq_false_iff_ne.mpr c26
                            have c26b1 : (t112.toList != a0.toList) = true := bne_iff_ne.mpr c26
                            obtain rfl := Option.some.inj H
                            go_wp2_with (first | ((with_reducible refine gate_callee (f := 7) rfl ?_); refine goesL_ (some 60) rfl rfl Try.func7 (by kernel_rfl) rfl #[.string a0, .string a1] rfl (by (try simp only [List.map_toArray, List.map_cons, List.map_nil]); first | done | rfl | (simp only [List.length_drop, List.length_take]; rfl)) ?_; (with_reducible refine (impl_BucketJoin.calls a0 a1 t111 _ A24.out).mono ?_); rintro e w' ⟨rfl, ⟨nd, rfl⟩⟩; refine ⟨_, rfl, ?_⟩) | ((with_reducible refine gate_callee (f := 5) rfl ?_); refine goesL_ (some 61) rfl rfl Try.func5 (by kernel_rfl) rfl #[.string t111] rfl (by (try simp only [List.map_toArray, List.map_cons, List.map_nil]); first | done | rfl | (simp only [List.length_drop, List.length_take]; rfl)) ?_; (with_reducible refine (impl_BucketSplit.calls t111 t112 t113 _ A25.out).mono ?_); rintro e w28 ⟨rfl, hb⟩; refine ⟨_, rfl, ?_⟩; have n0_ := Aside0.mk (below_step (by repeat (first | (with_reducible first | exact HB.out | apply below_alloc | apply pw_below_drewN | apply below_drew1) | exact HB.out)) hb); clear HB; have HB := n0_; clear n0_; (try clear hb); (try clear hb2); (try clear hk); (try clear hi)))
                            go_ret
                            exact ⟨by first | rfl | (simp [errW_none, errW_some] <;> rfl) | (simp [*, errW_none, errW_some] <;> rfl), by repeat (first | (with_reducible first | exact HB.out | apply below_alloc | apply pw_below_drewN | apply below_drew1) | exact HB.out)⟩

/-- THE ONE PURE STATEMENT of laws_FnBucketBack: yours. -/
def laws_FnBucketBack.Pure : Prop := ∀ (a0 : ByteArray) (a1 : ByteArray) (a2 : ByteArray), a0.size ≤ 140737488351232 → a1.size ≤ 140737488351232 → a2.size ≤ 140737488351232 → ∃ k, laws_FnBucketBack.f k a0 a1 a2 = some true
theorem laws_FnBucketBack.walk (P : laws_FnBucketBack.Pure) (a0 : ByteArray) (a1 : ByteArray) (a2 : ByteArray) (w : World) (w0 : a0.size ≤ 140737488351232) (w1 : a1.size ≤ 140737488351232) (w2 : a2.size ≤ 140737488351232) :
    Calls Try.prog 4 #[.string a0, .string a1, .string a2] w fun e w' => e = .returned (.bool true) ∧ Below w.heap.size w w' := by
  obtain ⟨k, h⟩ := P a0 a1 a2 w0 w1 w2
  refine (laws_FnBucketBack.calls k a0 a1 a2 true w h).mono ?_
  rintro e w' ⟨rfl, hd⟩
  exact ⟨rfl, hd⟩

end Go.Proofs.Ytcomnkbkkpeilaa.PFnBucketBack
