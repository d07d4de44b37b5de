-- Written by a program of this session.
import Derived.Test.YtcomnkbkkpeilaaPFnBucketSplitx0
namespace Go.Proofs.Ytcomnkbkkpeilaa.PFnBucketSplit
open Go.RowKit Go.Proofs.YtcomnkbkkpeilaaW.PrintWords Go.Proofs.YtcomnkbkkpeilaaW.PrintLast Go.Proofs.YtcomnkbkkpeilaaW.PrintMore Go.Proofs.Ytcomnkbkkpeilaa.Given
attribute [local go_sem] max2_int min2_int max_two min_two max_three min_three max_four min_four   -- for this text's walks alone
set_option linter.unusedVariables false
set_option linter.unusedSimpArgs false

/-! ### bucket_Split: function 9 -/
def bucket_Split.f (a0 : ByteArray) : Option (ByteArray × ByteArray) := if a0.toList = ([] : List UInt8) then (some ((⟨#[]⟩ : ByteArray), (⟨#[]⟩ : ByteArray))) else ((bucket_zzIndexRune.f a0 47).bind fun t101 => (if t101 < 0 then (some (a0, (⟨#[]⟩ : ByteArray))) else (if 0 ≤ t101 then (if t101 ≤ (a0.size : Int) then (if 0 ≤ (wrap64 (t101 + 1)) then (if (wrap64 (t101 + 1)) ≤ (a0.size : Int) then (some (a0.extract 0 (t101 : Int).toNat, a0.extract ((wrap64 (t101 + 1)) : Int).toNat a0.size)) else (none)) else (none)) else (none)) else (none))))
set_option maxHeartbeats 8000000 in
set_option maxRecDepth 100000 in
theorem bucket_Split.calls (a0 : ByteArray) (r1 : ByteArray) (r2 : ByteArray) (w : World) (h : bucket_Split.f a0 = some (r1, r2)) :
    Calls Try.prog 9 #[.string a0] w fun e w' => e = .returned (.tuple #[.string r1, .string r2]) ∧ Below w.heap.size w w' := by
  have HB := Aside0.mk (Below.refl w.heap.size w)
  have H : (if a0.toList = ([] : List UInt8) then (some ((⟨#[]⟩ : ByteArray), (⟨#[]⟩ : ByteArray))) else ((bucket_zzIndexRune.f a0 47).bind fun t101 => (if t101 < 0 then (some (a0, (⟨#[]⟩ : ByteArray))) else (if 0 ≤ t101 then (if t101 ≤ (a0.size : Int) then (if 0 ≤ (wrap64 (t101 + 1)) then (if (wrap64 (t101 + 1)) ≤ (a0.size : Int) then (some (a0.extract 0 (t101 : Int).toNat, a0.extract ((wrap64 (t101 + 1)) : Int).toNat a0.size)) else (none)) else (none)) else (none)) else (none))))) = some (r1, r2) := h
  clear h
  by_cases c2 : a0.toList = ([] : List UInt8)
  · rw [if_pos c2] at H
    have c2b0 : (a0.toList == ([] : List UInt8)) = true := beq_iff_eq.mpr c2
    have c2b1 : (a0.toList != ([] : List UInt8)) = false := bne_eq_false_iff_eq.mpr c2
    clear c2
    simp only [Option.some.injEq, Prod.mk.injEq] at H
    obtain ⟨rfl, rfl⟩ := H
    go_enter Try.func9, Try.ntmps9
    go_wp2
    repeat (go_quiet (fail); try go_wp2)
    go_ret2
    exact ⟨by first | rfl | (simp [errW_none, errW_some] <;> rfl) | (simp [*, errW_none, errW_some] <;> rfl), by repeat (first | (with_reducible first | exact HB.out | apply below_alloc | apply pw_below_drewN | apply below_drew1) | exact HB.out)⟩
  · rw [if_neg c2] at H
    have c2b0 : (a0.toList == ([] : List UInt8)) = false := beq_eq_false_iff_ne.mpr c2
    have c2b1 : (a0.toList != ([] : List UInt8)) = true := bne_iff_ne.mpr c2
    replace H := Option.bind_eq_some_iff.mp H
    obtain ⟨t101, A30, H⟩ := H
    replace H : (if t101 < 0 then (some (a0, (⟨#[]⟩ : ByteArray))) else (if 0 ≤ t101 then (if t101 ≤ (a0.size : Int) then (if 0 ≤ (wrap64 (t101 + 1)) then (if (wrap64 (t101 + 1)) ≤ (a0.size : Int) then (some (a0.extract 0 (t101 : Int).toNat, a0.extract ((wrap64 (t101 + 1)) : Int).toNat a0.size)) else (none)) else (none)) else (none)) else (none))) = some (r1, r2) := H
    have A3 := Aside0.mk A30
    clear A30
    by_cases c4 : t101 < 0
    · rw [if_pos c4] at H
      have c4b0 : decide (t101 < 0) = true := decide_eq_true c4
      clear c4
      simp only [Option.some.injEq, Prod.mk.injEq] at H
      obtain ⟨rfl, rfl⟩ := H
      go_enter Try.func9, Try.ntmps9
      go_wp2_with (first | (go_at_call 11; (with_reducible refine (bucket_zzIndexRune.calls a0 47 t101 _ A3.out).mono ?_); rintro e w5 ⟨rfl, hb⟩; have n0_ := Aside0.mk (below_step (by repeat (first | (with_reducible first | exact HB.out | apply below_alloc | apply pw_below_drewN | apply below_drew1) | exact HB.out)) hb); clear HB; have HB := n0_; clear n0_; (try clear hb); (try clear hb2); (try clear hk); (try clear hi)))
      repeat (go_quiet (first | (go_at_call 11; (with_reducible refine (bucket_zzIndexRune.calls a0 47 t101 _ A3.out).mono ?_); rintro e w5 ⟨rfl, hb⟩; have n0_ := Aside0.mk (below_step (by repeat (first | (with_reducible first | exact HB.out | apply below_alloc | apply pw_below_drewN | apply below_drew1) | exact HB.out)) hb); clear HB; have HB := n0_; clear n0_; (try clear hb); (try clear hb2); (try clear hk); (try clear hi))); try go_wp2_with (first | (go_at_call 11; (with_reducible refine (bucket_zzIndexRune.calls a0 47 t101 _ A3.out).mono ?_); rintro e w5 ⟨rfl, hb⟩; have n0_ := Aside0.mk (below_step (by repeat (first | (with_reducible first | exact HB.out | apply below_alloc | apply pw_below_drewN | apply below_drew1) | exact HB.out)) hb); clear HB; have HB := n0_; clear n0_; (try clear hb); (try clear hb2); (try clear hk); (try clear hi))))
      go_ret2
      exact ⟨by first | rfl | (simp [errW_none, errW_some] <;> rfl) | (simp [*, errW_none, errW_some] <;> rfl), by repeat (first | (with_reducible first | exact HB.out | apply below_alloc | apply pw_below_drewN | apply below_drew1) | exact HB.out)⟩
    · rw [if_neg c4] at H
      have c4b0 : decide (t101 < 0) = false := decide_eq_false c4
      clear c4
      by_cases c6 : 0 ≤ t101
      · rw [if_pos c6] at H
        have c6b0 := eq_true c6
        have c6b1 : decide (0 ≤ t101) = true := decide_eq_true c6
        clear c6
        by_cases c7 : t101 ≤ (a0.size : Int)
        · rw [if_pos c7] at H
          have c7b0 := eq_true c7
          have c7b1 : decide (t101 ≤ (a0.size : Int)) = true := decide_eq_true c7
          clear c7
          obtain ⟨ji8, hji8⟩ : ∃ j_ : Int, (wrap64 (t101 + 1)) = j_ := ⟨_, rfl⟩
          replace H : (if 0 ≤ (ji8) then (if (ji8) ≤ (a0.size : Int) then (some (a0.extract 0 (t101 : Int).toNat, a0.extract ((ji8) : Int).toNat a0.size)) else (none)) else (none)) = some (r1, r2) := by first | (rw [hji8] at H; exact H) | (simp only [hji8] at H ⊢; exact H)
          (try rw [hji8] at A3)
          have hji8w : (IntKind.i64.wrap (t101 + 1)) = ji8 := (i64_w _).trans hji8
          by_cases c9 : 0 ≤ (ji8)
          · rw [if_pos c9] at H
            have c9b0 := eq_true c9
            have c9b1 : decide (0 ≤ (ji8)) = true := decide_eq_true c9
            clear c9
            by_cases c10 : (ji8) ≤ (a0.size : Int)
            · rw [if_pos c10] at H
              have c10b0 := eq_true c10
              have c10b1 : decide ((ji8) ≤ (a0.size : Int)) = true := decide_eq_true c10
              clear c10
              simp only [Option.some.injEq, Prod.mk.injEq] at H
              obtain ⟨rfl, rfl⟩ := H
              go_enter Try.func9, Try.ntmps9
              go_wp2_with (first | (go_at_call 11; (with_reducible refine (bucket_zzIndexRune.calls a0 47 t101 _ A3.out).mono ?_); rintro e w11 ⟨rfl, hb⟩; have n0_ := Aside0.mk (below_step (by repeat (first | (with_reducible first | exact HB.out | apply below_alloc | apply pw_below_drewN | apply below_drew1) | exact HB.out)) hb); clear HB; have HB := n0_; clear n0_; (try clear hb); (try clear hb2); (try clear hk); (try clear hi)))
              repeat (go_quiet (first | (go_at_call 11; (with_reducible refine (bucket_zzIndexRune.calls a0 47 t101 _ A3.out).mono ?_); rintro e w11 ⟨rfl, hb⟩; have n0_ := Aside0.mk (below_step (by repeat (first | (with_reducible first | exact HB.out | apply below_alloc | apply pw_below_drewN | apply below_drew1) | exact HB.out)) hb); clear HB; have HB := n0_; clear n0_; (try clear hb); (try clear hb2); (try clear hk); (try clear hi))); try go_wp2_with (first | (go_at_call 11; (with_reducible refine (bucket_zzIndexRune.calls a0 47 t101 _ A3.out).mono ?_); rintro e w11 ⟨rfl, hb⟩; have n0_ := Aside0.mk (below_step (by repeat (first | (with_reducible first | exact HB.out | apply below_alloc | apply pw_below_drewN | apply below_drew1) | exact HB.out)) hb); clear HB; have HB := n0_; clear n0_; (try clear hb); (try clear hb2); (try clear hk); (try clear hi))))
              go_ret2
              exact ⟨by first | rfl | (simp [errW_none, errW_some] <;> rfl) | (simp only [← hji8]; first | rfl | (simp [errW_none, errW_some] <;> rfl)) | (simp [*, errW_none, errW_some] <;> rfl), by repeat (first | (with_reducible first | exact HB.out | apply below_alloc | apply pw_below_drewN | apply below_drew1) | exact HB.out)⟩
            · rw [if_neg c10] at H
              exact absurd H (by simp)
          · rw [if_neg c9] at H
            exact absurd H (by simp)
        · rw [if_neg c7] at H
          exact absurd H (by simp)
      · rw [if_neg c6] at H
        exact absurd H (by simp)

/-! ### impl_BucketSplit: function 5 -/
def impl_BucketSplit.f (a0 : ByteArray) : Option (ByteArray × ByteArray) := (bucket_Split.f a0).bind fun bt102 => (some (bt102.1, bt102.2))
set_option maxHeartbeats 8000000 in
set_option maxRecDepth 100000 in
theorem impl_BucketSplit.calls (a0 : ByteArray) (r1 : ByteArray) (r2 : ByteArray) (w : World) (h : impl_BucketSplit.f a0 = some (r1, r2)) :
    Calls Try.prog 5 #[.string a0] w fun e w' => e = .returned (.tuple #[.string r1, .string r2]) ∧ Below w.heap.size w w' := by
  have HB := Aside0.mk (Below.refl w.heap.size w)
  have H : ((bucket_Split.f a0).bind fun bt102 => (some (bt102.1, bt102.2))) = some (r1, r2) := h
  clear h
  replace H := Option.bind_eq_some_iff.mp H
  obtain ⟨⟨t102, t103⟩, A20, H⟩ := H
  replace H : (some (t102, t103)) = some (r1, r2) := H
  have A2 := Aside0.mk A20
  clear A20
  simp only [Option.some.injEq, Prod.mk.injEq] at H
  obtain ⟨rfl, rfl⟩ := H
  go_enter Try.func5, Try.ntmps5
  go_wp2_with (first | ((with_reducible refine gate_callee (f := 9) rfl ?_); refine goesL_ (some 5) rfl rfl Try.func9 (by kernel_rfl) rfl #[.string a0] rfl (by (try simp only [List.map_toArray, List.map_cons, List.map_nil]); first | done | rfl | (simp only [List.length_drop, List.length_take]; rfl)) ?_; (with_reducible refine (bucket_Split.calls a0 t102 t103 _ A2.out).mono ?_); rintro e w3 ⟨rfl, hb⟩; refine ⟨_, rfl, ?_⟩; have n0_ := Aside0.mk (below_step (by repeat (first | (with_reducible first | exact HB.out | apply below_alloc | apply pw_below_drewN | apply below_drew1) | exact HB.out)) hb); clear HB; have HB := n0_; clear n0_; (try clear hb); (try clear hb2); (try clear hk); (try clear hi)))
  go_ret2
  exact ⟨by first | rfl | (simp [errW_none, errW_some] <;> rfl) | (simp [*, errW_none, errW_some] <;> rfl), by repeat (first | (with_reducible first | exact HB.out | apply below_alloc | apply pw_below_drewN | apply below_drew1) | exact HB.out)⟩

/-! ### spec_BucketSplit: function 6 -/
def spec_BucketSplit.l0 : Nat → ByteArray → Int → Option (ByteArray × ByteArray)
  | 0, _, _ => none
  | k + 1, x0, x4 => if x4 < (x0.size : Int) then (if 0 ≤ x4 then (if (bt x0 x4) = 47 then (if x4 ≤ (x0.size : Int) then (if 0 ≤ (wrap64 (x4 + 1)) then (if (wrap64 (x4 + 1)) ≤ (x0.size : Int) then (some (x0.extract 0 (x4 : Int).toNat, x0.extract ((wrap64 (x4 + 1)) : Int).toNat x0.size)) else (none)) else (none)) else (none)) else (spec_BucketSplit.l0 k x0 (wrap64 (x4 + 1)))) else (none)) else (some (x0, (⟨#[]⟩ : ByteArray)))
def spec_BucketSplit.f (k : Nat) (a0 : ByteArray) : Option (ByteArray × ByteArray) := spec_BucketSplit.l0 k a0 0
theorem spec_BucketSplit.mono_l : ∀ k, (∀ y0 y1, LeO (spec_BucketSplit.l0 k y0 y1) (spec_BucketSplit.l0 (k + 1) y0 y1))
  | 0 => fun _ _ r h => by simp [spec_BucketSplit.l0] at h
  | k + 1 => by
    have ih0 := spec_BucketSplit.mono_l k
    · intro y0 y1
      unfold spec_BucketSplit.l0
      repeat' first
      | (with_reducible exact ih0 _ _)
      | (with_reducible exact LeO.refl _)
      | (with_reducible exact LeO.none _)
      | (with_reducible refine LeO.ite ?_ ?_)
      | (with_reducible refine LeO.bind ?_ (fun _ => ?_))
      | exact ih0 _ _
      | exact LeO.none _
      | refine LeO.ite ?_ ?_
      | refine LeO.bind ?_ (fun _ => ?_)
theorem spec_BucketSplit.mono : ∀ a0 k, LeO (spec_BucketSplit.f k a0) (spec_BucketSplit.f (k + 1) a0) := by
  intro a0 k
  have ih0 := spec_BucketSplit.mono_l k
  unfold spec_BucketSplit.f
  repeat' first
      | (with_reducible exact ih0 _ _)
      | (with_reducible exact LeO.refl _)
      | (with_reducible exact LeO.none _)
      | (with_reducible refine LeO.ite ?_ ?_)
      | (with_reducible refine LeO.bind ?_ (fun _ => ?_))
      | exact ih0 _ _
      | exact LeO.none _
      | refine LeO.ite ?_ ?_
      | refine LeO.bind ?_ (fun _ => ?_)
set_option maxHeartbeats 8000000 in
set_option maxRecDepth 100000 in
theorem spec_BucketSplit.calls (k : Nat) (a0 : ByteArray) (r1 : ByteArray) (r2 : ByteArray) (w : World) (h : spec_BucketSplit.f k a0 = some (r1, r2)) :
    Calls Try.prog 6 #[.string a0] w fun e w' => e = .returned (.tuple #[.string r1, .string r2]) ∧ Drawn0 w w' := by
  have H : (spec_BucketSplit.l0 k a0 0) = some (r1, r2) := h
  clear h
  have H' := Aside0.mk H
  clear H
  go_enter Try.func6, Try.ntmps6
  go_wp2
  repeat (go_quiet (fail); try go_wp2)
  go_loopg [4] k (fun kq v4 w' => ∃ (x4_1 : Int), v4 = .int .i64 x4_1 ∧ Aside0 (spec_BucketSplit.l0 kq a0 x4_1 = some (r1, r2)) ∧ Aside0 (kq ≤ k) ∧ Drawn0 w w')
  case atStart => exact ⟨(0), (by first | rfl | (simp; done) | (simp [*]; done)), H', ⟨Nat.le_refl _⟩, by repeat (first | exact Drawn0.refl _ | apply Drawn0.step)⟩
  case round =>
    clear H'
    obtain ⟨x4_1, rfl, HA, HK1, ⟨m1, rfl⟩⟩ := hrel
    cases gk with
    | zero => exact absurd HA.out (by simp [spec_BucketSplit.l0])
    | succ k1 =>
      have H := HA.out
      clear HA
      simp only [spec_BucketSplit.l0] at H
      by_cases c2 : x4_1 < (a0.size : Int)
      · rw [if_pos c2] at H
        have c2b0 : decide (x4_1 < (a0.size : Int)) = true := decide_eq_true c2
        clear c2
        by_cases c3 : 0 ≤ x4_1
        · rw [if_pos c3] at H
          have c3b0 : decide (0 ≤ x4_1) = true := decide_eq_true c3
          clear c3
          by_cases c5 : (bt a0 x4_1) = 47
          · rw [if_pos c5] at H
            have c5b0 : ((bt a0 x4_1) == 47) = true := beq_iff_eq.mpr c5
            have c5b1 : ((bt a0 x4_1) != 47) = false := bne_eq_false_iff_eq.mpr c5
            clear c5
            have c6b0 := eq_true (of_decide_eq_true (by first | (with_reducible assumption) | assumption) : 0 ≤ x4_1)
            by_cases c7 : x4_1 ≤ (a0.size : Int)
            · rw [if_pos c7] at H
              have c7b0 := eq_true c7
              have c7b1 : decide (x4_1 ≤ (a0.size : Int)) = true := decide_eq_true c7
              clear c7
              obtain ⟨ji8, hji8⟩ : ∃ j_ : Int, (wrap64 (x4_1 + 1)) = j_ := ⟨_, rfl⟩
              replace H : (if 0 ≤ (ji8) then (if (ji8) ≤ (a0.size : Int) then (some (a0.extract 0 (x4_1 : Int).toNat, a0.extract ((ji8) : Int).toNat a0.size)) else (none)) else (none)) = some (r1, r2) := by first | (rw [hji8] at H; exact H) | (simp only [hji8] at H ⊢; exact H)
              have hji8w : (IntKind.i64.wrap (x4_1 + 1)) = ji8 := (i64_w _).trans hji8
              by_cases c9 : 0 ≤ (ji8)
              · rw [if_pos c9] at H
                have c9b0 := eq_true c9
                have c9b1 : decide (0 ≤ (ji8)) = true := decide_eq_true c9
                clear c9
                by_cases c10 : (ji8) ≤ (a0.size : Int)
                · rw [if_pos c10] at H
                  have c10b0 := eq_true c10
                  have c10b1 : decide ((ji8) ≤ (a0.size : Int)) = true := decide_eq_true c10
                  clear c10
                  simp only [Option.some.injEq, Prod.mk.injEq] at H
                  obtain ⟨rfl, rfl⟩ := H
                  have p4 : 0 ≤ (x4_1 : Int) := of_decide_eq_true (by first | (with_reducible assumption) | assumption)
                  have q4 : x4_1 < (a0.size : Int) := of_decide_eq_true (by first | (with_reducible assumption) | assumption)
                  have hx4 := bt_at a0 x4_1
                  replace p4 := eq_true p4
                  replace q4 := eq_true q4
                  go_wp2
                  repeat (go_quiet (fail); try go_wp2)
                  go_ret2
                  exact ⟨by first | rfl | (simp; done) | (simp only [← hji8] <;> (first | rfl | simp)) | (simp [*]; done), by repeat (first | exact Drawn0.refl _ | apply Drawn0.step)⟩
                · rw [if_neg c10] at H
                  exact absurd H (by simp)
              · rw [if_neg c9] at H
                exact absurd H (by simp)
            · rw [if_neg c7] at H
              exact absurd H (by simp)
          · rw [if_neg c5] at H
            have c5b0 : ((bt a0 x4_1) == 47) = false := beq_eq_false_iff_ne.mpr c5
            have c5b1 : ((bt a0 x4_1) != 47) = true := bne_iff_ne.mpr c5
            have H' := Aside0.mk H
            clear H
            have p4 : 0 ≤ (x4_1 : Int) := of_decide_eq_true (by first | (with_reducible assumption) | assumption)
            have q4 : x4_1 < (a0.size : Int) := of_decide_eq_true (by first | (with_reducible assumption) | assumption)
            have hx4 := bt_at a0 x4_1
            replace p4 := eq_true p4
            replace q4 := eq_true q4
            go_wp2
            repeat (go_quiet (fail); try go_wp2)
            go_roundg k1
            case measure => have := HK1.out; omega
            case rel => exact ⟨(wrap64 (x4_1 + 1)), (by first | rfl | (simp; done) | (simp [*]; done)), H', ⟨by have := HK1.out; omega⟩, by repeat (first | exact Drawn0.refl _ | apply Drawn0.step)⟩
        · rw [if_neg c3] at H
          exact absurd H (by simp)
      · rw [if_neg c2] at H
        have c2b0 : decide (x4_1 < (a0.size : Int)) = false := decide_eq_false c2
        clear c2
        simp only [Option.some.injEq, Prod.mk.injEq] at H
        obtain ⟨rfl, rfl⟩ := H
        go_wp2
        repeat (go_quiet (fail); try go_wp2)
        go_ret2
        exact ⟨by first | rfl | (simp; done) | (simp [*]; done), by repeat (first | exact Drawn0.refl _ | apply Drawn0.step)⟩

/-! ### laws_FnBucketSplit: function 3 -/
def laws_FnBucketSplit.f (k : Nat) (a0 : ByteArray) : Option (Bool) := if (a0.size : Int) > 2147483647 then (some true) else (if (a0.size : Int) > 5000 then (some true) else ((impl_BucketSplit.f a0).bind fun bt104 => ((spec_BucketSplit.f k a0).bind fun bt106 => ((impl_BucketSplit.f (⟨#[97, 47, 98, 47, 99]⟩ : ByteArray)).bind fun bt108 => (if bt104.1.toList = bt106.1.toList then (if bt104.2.toList = bt106.2.toList then (if bt108.1.toList = ([97] : List UInt8) then (some (bt108.2.toList == ([98, 47, 99] : List UInt8))) else (some false)) else (some false)) else (some false))))))
theorem laws_FnBucketSplit.mono : ∀ a0 k, LeO (laws_FnBucketSplit.f k a0) (laws_FnBucketSplit.f (k + 1) a0) := by
  intro a0 k
  unfold laws_FnBucketSplit.f
  repeat' first
      | (with_reducible exact spec_BucketSplit.mono _ _)
      | (with_reducible exact LeO.refl _)
      | (with_reducible exact LeO.none _)
      | (with_reducible refine LeO.ite ?_ ?_)
      | (with_reducible refine LeO.bind ?_ (fun _ => ?_))
      | exact spec_BucketSplit.mono _ _
      | exact LeO.none _
      | refine LeO.ite ?_ ?_
      | refine LeO.bind ?_ (fun _ => ?_)
set_option maxHeartbeats 8000000 in
set_option maxRecDepth 100000 in
theorem laws_FnBucketSplit.calls (k : Nat) (a0 : ByteArray) (r : Bool) (w : World) (h : laws_FnBucketSplit.f k a0 = some r) :
    Calls Try.prog 3 #[.string a0] w fun e w' => e = .returned (.bool r) ∧ Below w.heap.size w w' := by
  have HB := Aside0.mk (Below.refl w.heap.size w)
  have H : (if (a0.size : Int) > 2147483647 then (some true) else (if (a0.size : Int) > 5000 then (some true) else ((impl_BucketSplit.f a0).bind fun bt104 => ((spec_BucketSplit.f k a0).bind fun bt106 => ((impl_BucketSplit.f (⟨#[97, 47, 98, 47, 99]⟩ : ByteArray)).bind fun bt108 => (if bt104.1.toList = bt106.1.toList then (if bt104.2.toList = bt106.2.toList then (if bt108.1.toList = ([97] : List UInt8) then (some (bt108.2.toList == ([98, 47, 99] : List UInt8))) else (some false)) else (some false)) else (some false))))))) = some r := h
  clear h
  by_cases c2 : (a0.size : Int) > 2147483647
  · rw [if_pos c2] at H
    have c2b0 : decide (2147483647 < (a0.size : Int)) = true := decide_eq_true c2
    have c2b1 : decide (2147483647 < a0.size) = true := decide_eq_true (by omega)
    clear c2
    obtain rfl := Option.some.inj H
    go_enter Try.func3, Try.ntmps3
    go_wp2
    go_ret
    exact ⟨by first | rfl | (simp [errW_none, errW_some] <;> rfl) | (simp [*, errW_none, errW_some] <;> rfl), by repeat (first | (with_reducible first | exact HB.out | apply below_alloc | apply pw_below_drewN | apply below_drew1) | exact HB.out)⟩
  · rw [if_neg c2] at H
    have c2b0 : decide (2147483647 < (a0.size : Int)) = false := decide_eq_false c2
    have c2b1 : decide (2147483647 < a0.size) = false := decide_eq_false (by omega)
    clear c2
    by_cases c3 : (a0.size : Int) > 5000
    · rw [if_pos c3] at H
      have c3b0 : decide (5000 < (a0.size : Int)) = true := decide_eq_true c3
      have c3b1 : decide (5000 < a0.size) = true := decide_eq_true (by omega)
      clear c3
      obtain rfl := Option.some.inj H
      go_enter Try.func3, Try.ntmps3
      go_wp2
      go_ret
      exact ⟨by first | rfl | (simp [errW_none, errW_some] <;> rfl) | (simp [*, errW_none, errW_some] <;> rfl), by repeat (first | (with_reducible first | exact HB.out | apply below_alloc | apply pw_below_drewN | apply below_drew1) | exact HB.out)⟩
    · rw [if_neg c3] at H
      have c3b0 : decide (5000 < (a0.size : Int)) = false := decide_eq_false c3
      have c3b1 : decide (5000 < a0.size) = false := decide_eq_false (by omega)
      clear c3
      replace H := Option.bind_eq_some_iff.mp H
      obtain ⟨⟨t104, t105⟩, A40, H⟩ := H
      replace H : ((spec_BucketSplit.f k a0).bind fun bt106 => ((impl_BucketSplit.f (⟨#[97, 47, 98, 47, 99]⟩ : ByteArray)).bind fun bt108 => (if t104.toList = bt106.1.toList then (if t105.toList = bt106.2.toList then (if bt108.1.toList = ([97] : List UInt8) then (some (bt108.2.toList == ([98, 47, 99] : List UInt8))) else (some false)) else (some false)) else (some false)))) = some r := H
      have A4 := Aside0.mk A40
      clear A40
      replace H := Option.bind_eq_some_iff.mp H
      obtain ⟨⟨t106, t107⟩, A50, H⟩ := H
      replace H : ((impl_BucketSplit.f (⟨#[97, 47, 98, 47, 99]⟩ : ByteArray)).bind fun bt108 => (if t104.toList = t106.toList then (if t105.toList = t107.toList then (if bt108.1.toList = ([97] : List UInt8) then (some (bt108.2.toList == ([98, 47, 99] : List UInt8))) else (some false)) else (some false)) else (some false))) = some r := H
      have A5 := Aside0.mk A50
      clear A50
      replace H := Option.bind_eq_some_iff.mp H
      obtain ⟨⟨t108, t109⟩, A60, H⟩ := H
      replace H : (if t104.toList = t106.toList then (if t105.toList = t107.toList then (if t108.toList = ([97] : List UInt8) then (some (t109.toList == ([98, 47, 99] : List UInt8))) else (some false)) else (some false)) else (some false)) = some r := H
      have A6 := Aside0.mk A60
      clear A60
      by_cases c7 : t104.toList = t106.toList
      · rw [if_pos c7] at H
        have c7b0 : (t104.toList == t106.toList) = true := beq_iff_eq.mpr c7
        have c7b1 : (t104.toList != t106.toList) = false := bne_eq_false_iff_eq.mpr c7
        clear c7
        by_cases c8 : t105.toList = t107.toList
        · rw [if_pos c8] at H
          have c8b0 : (t105.toList == t107.toList) = true := beq_iff_eq.mpr c8
          have c8b1 : (t105.toList != t107.toList) = false := bne_eq_false_iff_eq.mpr c8
          clear c8
          by_cases c9 : t108.toList = ([97] : List UInt8)
          · rw [if_pos c9] at H
            have c9b0 : (t108.toList == ([97] : List UInt8)) = true := beq_iff_eq.mpr c9
            have c9b1 : (t108.toList != ([97] : List UInt8)) = false := bne_eq_false_iff_eq.mpr c9
            clear c9
            obtain rfl := Option.some.inj H
            go_enter Try.func3, Try.ntmps3
            go_wp2_with (first | ((with_reducible refine gate_callee (f := 5) rfl ?_); refine goesL_ (some 17) rfl rfl Try.func5 (by kernel_rfl) rfl #[.string a0] rfl (by (try simp only [List.map_toArray, List.map_cons, List.map_nil]); first | done | rfl | (simp only [List.length_drop, List.length_take]; rfl)) ?_; (with_reducible refine (impl_BucketSplit.calls a0 t104 t105 _ A4.out).mono ?_); rintro e w10 ⟨rfl, hb⟩; refine ⟨_, rfl, ?_⟩; have n0_ := Aside0.mk (below_step (by repeat (first | (with_reducible first | exact HB.out | apply below_alloc | apply pw_below_drewN | apply below_drew1) | exact HB.out)) hb); clear HB; have HB := n0_; clear n0_; (try clear hb); (try clear hb2); (try clear hk); (try clear hi)) | ((with_reducible refine gate_callee (f := 6) rfl ?_); refine goesL_ (some 22) rfl rfl Try.func6 (by kernel_rfl) rfl #[.string a0] rfl (by (try simp only [List.map_toArray, List.map_cons, List.map_nil]); first | done | rfl | (simp only [List.length_drop, List.length_take]; rfl)) ?_; (with_reducible refine (spec_BucketSplit.calls k a0 t106 t107 _ A5.out).mono ?_); rintro e w' ⟨rfl, ⟨nd, rfl⟩⟩; refine ⟨_, rfl, ?_⟩) | ((with_reducible refine gate_callee (f := 5) rfl ?_); refine goesL_ (some 26) rfl rfl Try.func5 (by kernel_rfl) rfl #[.string (⟨#[97, 47, 98, 47, 99]⟩ : ByteArray)] rfl (by (try simp only [List.map_toArray, List.map_cons, List.map_nil]); first | done | rfl | (simp only [List.length_drop, List.length_take]; rfl)) ?_; (with_reducible refine (impl_BucketSplit.calls (⟨#[97, 47, 98, 47, 99]⟩ : ByteArray) t108 t109 _ A6.out).mono ?_); rintro e w11 ⟨rfl, hb⟩; refine ⟨_, rfl, ?_⟩; have n0_ := Aside0.mk (below_step (by repeat (first | (with_reducible first | exact HB.out | apply below_alloc | apply pw_below_drewN | apply below_drew1) | exact HB.out)) hb); clear HB; have HB := n0_; clear n0_; (try clear hb); (try clear hb2); (try clear hk); (try clear hi)))
            go_ret
            exact ⟨by first | rfl | (simp [errW_none, errW_some] <;> rfl) | (simp [*, errW_none, errW_some] <;> rfl), by repeat (first | (with_reducible first | exact HB.out | apply below_alloc | apply pw_below_drewN | apply below_drew1) | exact HB.out)⟩
          · rw [if_neg c9] at H
            have c9b0 : (t108.toList == ([97] : List UInt8)) = false := beq_eq_false_iff_ne.mpr c9
            have c9b1 : (t108.toList != ([97] : List UInt8)) = true := bne_iff_ne.mpr c9
            obtain rfl := Option.some.inj H
            go_enter Try.func3, Try.ntmps3
            go_wp2_with (first | ((with_reducible refine gate_callee (f := 5) rfl ?_); refine goesL_ (some 17) rfl rfl Try.func5 (by kernel_rfl) rfl #[.string a0] rfl (by (try simp only [List.map_toArray, List.map_cons, List.map_nil]); first | done | rfl | (simp only [List.length_drop, List.length_take]; rfl)) ?_; (with_reducible refine (impl_BucketSplit.calls a0 t104 t105 _ A4.out).mono ?_); rintro e w12 ⟨rfl, hb⟩; refine ⟨_, rfl, ?_⟩; have n0_ := Aside0.mk (below_step (by repeat (first | (with_reducible first | exact HB.out | apply below_alloc | apply pw_below_drewN | apply below_drew1) | exact HB.out)) hb); clear HB; have HB := n0_; clear n0_; (try clear hb); (try clear hb2); (try clear hk); (try clear hi)) | ((with_reducible refine gate_callee (f := 6) rfl ?_); refine goesL_ (some 22) rfl rfl Try.func6 (by kernel_rfl) rfl #[.string a0] rfl (by (try simp only [List.map_toArray, List.map_cons, List.map_nil]); first | done | rfl | (simp only [List.length_drop, List.length_take]; rfl)) ?_; (with_reducible refine (spec_BucketSplit.calls k a0 t106 t107 _ A5.out).mono ?_); rintro e w' ⟨rfl, ⟨nd, rfl⟩⟩; refine ⟨_, rfl, ?_⟩) | ((with_reducible refine gate_callee (f := 5) rfl ?_); refine goesL_ (some 26) rfl rfl Try.func5 (by kernel_rfl) rfl #[.string (⟨#[97, 47, 98, 47, 99]⟩ : ByteArray)] rfl (by (try simp only [List.map_toArray, List.map_cons, List.map_nil]); first | done | rfl | (simp only [List.length_drop, List.length_take]; rfl)) ?_; (with_reducible refine (impl_BucketSplit.calls (⟨#[97, 47, 98, 47, 99]⟩ : ByteArray) t108 t109 _ A6.out).mono ?_); rintro e w13 ⟨rfl, hb⟩; refine ⟨_, rfl, ?_⟩; have n0_ := Aside0.mk (below_step (by repeat (first | (with_reducible first | exact HB.out | apply below_alloc | apply pw_below_drewN | apply below_drew1) | exact HB.out)) hb); clear HB; have HB := n0_; clear n0_; (try clear hb); (try clear hb2); (try clear hk); (try clear hi)))
            go_ret
            exact ⟨by first | rfl | (simp [errW_none, errW_some] <;> rfl) | (simp [*, errW_none, errW_some] <;> rfl), by repeat (first | (with_reducible first | exact HB.out | apply below_alloc | apply pw_below_drewN | apply below_drew1) | exact HB.out)⟩
        · rw [if_neg c8] at H
          have c8b0 : (t105.toList == t107.toList) = false := beq_eq_false_iff_ne.mpr c8
          have c8b1 : (t105.toList != t107.toList) = true := bne_iff_ne.mpr c8
          obtain rfl := Option.some.inj H
          go_enter Try.func3, Try.ntmps3
          go_wp2_with (first | ((with_reducible refine gate_callee (f := 5) rfl ?_); refine goesL_ (some 17) rfl rfl Try.func5 (by kernel_rfl) rfl #[.string a0] rfl (by (try simp only [List.map_toArray, List.map_cons, List.map_nil]); first | done | rfl | (simp only [List.length_drop, List.length_take]; rfl)) ?_; (with_reducible refine (impl_BucketSplit.calls a0 t104 t105 _ A4.out).mono ?_); rintro e w14 ⟨rfl, hb⟩; refine ⟨_, rfl, ?_⟩; have n0_ := Aside0.mk (below_step (by repeat (first | (with_reducible first | exact HB.out | apply below_alloc | apply pw_below_drewN | apply below_drew1) | exact HB.out)) hb); clear HB; have HB := n0_; clear n0_; (try clear hb); (try clear hb2); (try clear hk); (try clear hi)) | ((with_reducible refine gate_callee (f := 6) rfl ?_); refine goesL_ (some 22) rfl rfl Try.func6 (by kernel_rfl) rfl #[.string a0] rfl (by (try simp only [List.map_toArray, List.map_cons, List.map_nil]); first | done | rfl | (simp only [List.length_drop, List.length_take]; rfl)) ?_; (with_reducible refine (spec_BucketSplit.calls k a0 t106 t107 _ A5.out).mono ?_); rintro e w' ⟨rfl, ⟨nd, rfl⟩⟩; refine ⟨_, rfl, ?_⟩) | ((with_reducible refine gate_callee (f := 5) rfl ?_); refine goesL_ (some 26) rfl rfl Try.func5 (by kernel_rfl) rfl #[.string (⟨#[97, 47, 98, 47, 99]⟩ : ByteArray)] rfl (by (try simp only [List.map_toArray, List.map_cons, List.map_nil]); first | done | rfl | (simp only [List.length_drop, List.length_take]; rfl)) ?_; (with_reducible refine (impl_BucketSplit.calls (⟨#[97, 47, 98, 47, 99]⟩ : ByteArray) t108 t109 _ A6.out).mono ?_); rintro e w15 ⟨rfl, hb⟩; refine ⟨_, rfl, ?_⟩; have n0_ := Aside0.mk (below_step (by repeat (first | (with_reducible first | exact HB.out | apply below_alloc | apply pw_below_drewN | apply below_drew1) | exact HB.out)) hb); clear HB; have HB := n0_; clear n0_; (try clear hb); (try clear hb2); (try clear hk); (try clear hi)))
          go_ret
          exact ⟨by first | rfl | (simp [errW_none, errW_some] <;> rfl) | (simp [*, errW_none, errW_some] <;> rfl), by repeat (first | (with_reducible first | exact HB.out | apply below_alloc | apply pw_below_drewN | apply below_drew1) | exact HB.out)⟩
      · rw [if_neg c7] at H
        have c7b0 : (t104.toList == t106.toList) = false := beq_eq_false_iff_ne.mpr c7
        have c7b1 : (t104.toList != t106.toList) = true := bne_iff_ne.mpr c7
        obtain rfl := Option.some.inj H
        go_enter Try.func3, Try.ntmps3
        go_wp2_with (first | ((with_reducible refine gate_callee (f := 5) rfl ?_); refine goesL_ (some 17) rfl rfl Try.func5 (by kernel_rfl) rfl #[.string a0] rfl (by (try simp only [List.map_toArray, List.map_cons, List.map_nil]); first | done | rfl | (simp only [List.length_drop, List.length_take]; rfl)) ?_; (with_reducible refine (impl_BucketSplit.calls a0 t104 t105 _ A4.out).mono ?_); rintro e w16 ⟨rfl, hb⟩; refine ⟨_, rfl, ?_⟩; have n0_ := Aside0.mk (below_step (by repeat (first | (with_reducible first | exact HB.out | apply below_alloc | apply pw_below_drewN | apply below_drew1) | exact HB.out)) hb); clear HB; have HB := n0_; clear n0_; (try clear hb); (try clear hb2); (try clear hk); (try clear hi)) | ((with_reducible refine gate_callee (f := 6) rfl ?_); refine goesL_ (some 22) rfl rfl Try.func6 (by kernel_rfl) rfl #[.string a0] rfl (by (try simp only [List.map_toArray, List.map_cons, List.map_nil]); first | done | rfl | (simp only [List.length_drop, List.length_take]; rfl)) ?_; (with_reducible refine (spec_BucketSplit.calls k a0 t106 t107 _ A5.out).mono ?_); rintro e w' ⟨rfl, ⟨nd, rfl⟩⟩; refine ⟨_, rfl, ?_⟩) | ((with_reducible refine gate_callee (f := 5) rfl ?_); refine goesL_ (some 26) rfl rfl Try.func5 (by kernel_rfl) rfl #[.string (⟨#[97, 47, 98, 47, 99]⟩ : ByteArray)] rfl (by (try simp only [List.map_toArray, List.map_cons, List.map_nil]); first | done | rfl | (simp only [List.length_drop, List.length_take]; rfl)) ?_; (with_reducible refine (impl_BucketSplit.calls (⟨#[97, 47, 98, 47, 99]⟩ : ByteArray) t108 t109 _ A6.out).mono ?_); rintro e w17 ⟨rfl, hb⟩; refine ⟨_, rfl, ?_⟩; have n0_ := Aside0.mk (below_step (by repeat (first | (with_reducible first | exact HB.out | apply below_alloc | apply pw_below_drewN | apply below_drew1) | exact HB.out)) hb); clear HB; have HB := n0_; clear n0_; (try clear hb); (try clear hb2); (try clear hk); (try clear hi)))
        go_ret
        exact ⟨by first | rfl | (simp [errW_none, errW_some] <;> rfl) | (simp [*, errW_none, errW_some] <;> rfl), by repeat (first | (with_reducible first | exact HB.out | apply below_alloc | apply pw_below_drewN | apply below_drew1) | exact HB.out)⟩

/-- THE ONE PURE STATEMENT of laws_FnBucketSplit: yours. -/
def laws_FnBucketSplit.Pure : Prop := ∀ (a0 : ByteArray), a0.size ≤ 140737488351232 → ∃ k, laws_FnBucketSplit.f k a0 = some true
theorem laws_FnBucketSplit.walk (P : laws_FnBucketSplit.Pure) (a0 : ByteArray) (w : World) (w0 : a0.size ≤ 140737488351232) :
    Calls Try.prog 3 #[.string a0] w fun e w' => e = .returned (.bool true) ∧ Below w.heap.size w w' := by
  obtain ⟨k, h⟩ := P a0 w0
  refine (laws_FnBucketSplit.calls k a0 true w h).mono ?_
  rintro e w' ⟨rfl, hd⟩
  exact ⟨rfl, hd⟩

end Go.Proofs.Ytcomnkbkkpeilaa.PFnBucketSplit
