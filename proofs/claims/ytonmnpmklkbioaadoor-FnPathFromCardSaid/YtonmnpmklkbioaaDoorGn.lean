/- 3 texts of this claim, one behind the other. -/
import Derived.Test.YtonmnpmklkbioaaDoorGa
import Derived.Test.YtonmnpmklkbioaaDoorGm
import Derived.Deep.RegionHeld3
-- Written by a program of this session.
namespace Go.Proofs.YtonmnpmklkbioaaDoor.PN
open Go.RowKit Go.Proofs.YtonmnpmklkbioaaDoorW.PrintWords Go.Proofs.YtonmnpmklkbioaaDoorW.PrintLast Go.Proofs.YtonmnpmklkbioaaDoorW.PrintMore
attribute [local go_sem] max2_int min2_int max_two min_two max_three min_three max_four min_four   -- for this text's walks alone
set_option linter.unusedVariables false
set_option linter.unusedSimpArgs false
/-! ### spec_unquoted: function 52 -/
mutual
def spec_unquoted.j0 : Nat → Int → List (S52) → Bool → Option (ByteArray × Int)
  | 0, _, _, _ => none
  | k + 1, x0, x1, x32 => if x32 = true then (if 1 < (x1.length : Int) then (some ((rd_T52 x1 1).f0, 2)) else (none)) else (if (Go.bits .and .u64 x0 16777216) = 0 then (spec_unquoted.j1 k x1 false) else (if (x1.length : Int) > 2 then (if 1 < (x1.length : Int) then ((spec_hexValue.f k ((rd_T52 x1 1).f0) ((rd_T52 x1 1).f1) ((rd_T52 x1 1).f2)).bind fun t228 => (if t228 ≥ 0 then (if 2 < (x1.length : Int) then ((spec_hexValue.f k ((rd_T52 x1 2).f0) ((rd_T52 x1 2).f1) ((rd_T52 x1 2).f2)).bind fun t230 => (spec_unquoted.j1 k x1 (decide (t230 ≥ 0)))) else (none)) else (spec_unquoted.j1 k x1 false))) else (none)) else (spec_unquoted.j1 k x1 false)))
def spec_unquoted.j1 : Nat → List (S52) → Bool → Option (ByteArray × Int)
  | 0, _, _ => none
  | k + 1, x1, x58 => if x58 = true then (if 1 < (x1.length : Int) then ((spec_hexValue.f k ((rd_T52 x1 1).f0) ((rd_T52 x1 1).f1) ((rd_T52 x1 1).f2)).bind fun t232 => (if 2 < (x1.length : Int) then ((spec_hexValue.f k ((rd_T52 x1 2).f0) ((rd_T52 x1 2).f1) ((rd_T52 x1 2).f2)).bind fun t234 => (some (strOfNums (([(wrap64 ((wrap64 (16 * t232)) + t234)) % 256] : List Int)), 3))) else (none))) else (none)) else (if 0 < (x1.length : Int) then (some ((rd_T52 x1 0).f0, 1)) else (none))
end
def spec_unquoted.f (k : Nat) (a0 : Int) (l1 : List (S52)) : Option (ByteArray × Int) := if (l1.length : Int) > 1 then (if 1 < (l1.length : Int) then (if ((rd_T52 l1 1).f1) = 8219 then (spec_unquoted.j0 k a0 l1 true) else ((spec_SignOf.f k ((rd_T52 l1 1).f1)).bind fun t222 => (if t222 ≥ 0 then ((spec_SignOf.f k ((rd_T52 l1 1).f1)).bind fun t224 => ((spec_Takes.f k a0 t224).bind fun t225 => (spec_unquoted.j0 k a0 l1 t225))) else (spec_unquoted.j0 k a0 l1 false)))) else (none)) else (spec_unquoted.j0 k a0 l1 false)
theorem spec_unquoted.mono_l : ∀ k, (∀ y0 y1 y2, LeO (spec_unquoted.j0 k y0 y1 y2) (spec_unquoted.j0 (k + 1) y0 y1 y2)) ∧ (∀ y0 y1, LeO (spec_unquoted.j1 k y0 y1) (spec_unquoted.j1 (k + 1) y0 y1))
  | 0 => ⟨fun _ _ _ r h => by simp [spec_unquoted.j0] at h, fun _ _ r h => by simp [spec_unquoted.j1] at h⟩
  | k + 1 => by
    obtain ⟨ih0, ih1⟩ := spec_unquoted.mono_l k
    refine ⟨?_, ?_⟩
    · intro y0 y1 y2
      unfold spec_unquoted.j0
      repeat' first
      | (with_reducible exact ih0 _ _ _)
      | (with_reducible exact ih1 _ _)
      | (with_reducible exact spec_SignOf.mono _ _)
      | (with_reducible exact spec_Takes.mono _ _ _)
      | (with_reducible exact spec_hexValue.mono _ _ _ _)
      | (with_reducible exact LeO.refl _)
      | (with_reducible exact LeO.none _)
      | (with_reducible refine LeO.ite ?_ ?_)
      | (with_reducible refine LeO.bind ?_ (fun _ => ?_))
      | exact ih0 _ _ _
      | exact ih1 _ _
      | exact spec_SignOf.mono _ _
      | exact spec_Takes.mono _ _ _
      | exact spec_hexValue.mono _ _ _ _
      | exact LeO.none _
      | refine LeO.ite ?_ ?_
      | refine LeO.bind ?_ (fun _ => ?_)
    · intro y0 y1
      unfold spec_unquoted.j1
      repeat' first
      | (with_reducible exact ih0 _ _ _)
      | (with_reducible exact ih1 _ _)
      | (with_reducible exact spec_SignOf.mono _ _)
      | (with_reducible exact spec_Takes.mono _ _ _)
      | (with_reducible exact spec_hexValue.mono _ _ _ _)
      | (with_reducible exact LeO.refl _)
      | (with_reducible exact LeO.none _)
      | (with_reducible refine LeO.ite ?_ ?_)
      | (with_reducible refine LeO.bind ?_ (fun _ => ?_))
      | exact ih0 _ _ _
      | exact ih1 _ _
      | exact spec_SignOf.mono _ _
      | exact spec_Takes.mono _ _ _
      | exact spec_hexValue.mono _ _ _ _
      | exact LeO.none _
      | refine LeO.ite ?_ ?_
      | refine LeO.bind ?_ (fun _ => ?_)
theorem spec_unquoted.mono : ∀ a0 a1 k, LeO (spec_unquoted.f k a0 a1) (spec_unquoted.f (k + 1) a0 a1) := by
  intro a0 a1 k
  obtain ⟨ih0, ih1⟩ := spec_unquoted.mono_l k
  unfold spec_unquoted.f
  repeat' first
      | (with_reducible exact ih0 _ _ _)
      | (with_reducible exact ih1 _ _)
      | (with_reducible exact spec_SignOf.mono _ _)
      | (with_reducible exact spec_Takes.mono _ _ _)
      | (with_reducible exact spec_hexValue.mono _ _ _ _)
      | (with_reducible exact LeO.refl _)
      | (with_reducible exact LeO.none _)
      | (with_reducible refine LeO.ite ?_ ?_)
      | (with_reducible refine LeO.bind ?_ (fun _ => ?_))
      | exact ih0 _ _ _
      | exact ih1 _ _
      | exact spec_SignOf.mono _ _
      | exact spec_Takes.mono _ _ _
      | exact spec_hexValue.mono _ _ _ _
      | exact LeO.none _
      | refine LeO.ite ?_ ?_
      | refine LeO.bind ?_ (fun _ => ?_)
def spec_unquoted.T4 : Bool × List (List Nat × List Nat) := (true, [([], []), ([0], [0]), ([1], [1]), ([2], [2]), ([3], [3]), ([], []), ([5], [5]), ([6], [6]), ([7, 3], [7]), ([4, 8], [4, 8]), ([9], [9]), ([10], [10]), ([11], [11]), ([12, 8, 0, 1, 2, 3, 4, 5, 6, 7, 8, 9, 10, 11, 12], [12]), ([13, 0, 1, 2, 3, 4, 5, 6, 7, 8, 9, 10, 11, 12, 13], [])])
def spec_unquoted.B4 : List Nat := [0, 1, 3, 7, 15, 0, 32, 96, 239, 511, 1023, 2047, 4095, 8191, 16383]
theorem spec_unquoted.tab4 : rtab .any (opsOf Tryd.f52 4) = spec_unquoted.T4 := by kernel_rfl
theorem spec_unquoted.bits4 : waitsOk spec_unquoted.T4.2 spec_unquoted.B4 = true := by kernel_rfl
set_option maxHeartbeats 8000000 in
set_option maxRecDepth 100000 in
theorem spec_unquoted.calls (k : Nat) (a0 : Int) (A1 : Option Addr) (c1 : Nat) (l1 : List (S52)) (r1 : ByteArray) (r2 : Int) (w : World) (hr1 : Kd.C k52 w A1 l1.length l1) (hc1 : l1.length ≤ c1) (h : spec_unquoted.f k a0 l1 = some (r1, r2)) :
    Calls Tryd.prog 52 #[.int .u64 a0, .slice A1 l1.length c1] w fun e w' => e = .returned (.tuple #[.string r1, .int .i64 r2]) ∧ Below w.heap.size w w' := by
  have hu52 := Tryd.underlying52
  have HR1 := Aside0.mk hr1
  have HC1 := Aside0.mk hc1
  clear hr1 hc1
  have HB := Aside0.mk (Below.refl w.heap.size w)
  have H : (if (l1.length : Int) > 1 then (if 1 < (l1.length : Int) then (if ((rd_T52 l1 1).f1) = 8219 then (spec_unquoted.j0 k a0 l1 true) else ((spec_SignOf.f k ((rd_T52 l1 1).f1)).bind fun t222 => (if t222 ≥ 0 then ((spec_SignOf.f k ((rd_T52 l1 1).f1)).bind fun t224 => ((spec_Takes.f k a0 t224).bind fun t225 => (spec_unquoted.j0 k a0 l1 t225))) else (spec_unquoted.j0 k a0 l1 false)))) else (none)) else (spec_unquoted.j0 k a0 l1 false)) = some (r1, r2) := h
  clear h
  have HC3 := Aside0.mk H
  clear H
  go_enter Tryd.func52, Tryd.ntmps52
  go_upto_region 1 with (fail)
  go_cut [32] (fun v32 wc => ∃ (kq : Nat) (x32_2 : Bool), v32 = .bool x32_2 ∧ Aside0 (spec_unquoted.j0 kq a0 l1 x32_2 = some (r1, r2)) ∧ Aside0 (kq ≤ k) ∧ Aside0 (Below w.heap.size w wc))
  case first =>
    have H := HC3.out
    clear HC3
    by_cases c4 : (l1.length : Int) > 1
    · rw [if_pos c4] at H
      have c4b0 : decide (1 < (l1.length : Int)) = true := decide_eq_true c4
      have c4b1 : decide (1 < l1.length) = true := decide_eq_true (by omega)
      clear c4
      (first | rw [c4b0] | (simp only [i64_w, i32_w]; rw [c4b0]) | skip)
      by_cases c5 : 1 < (l1.length : Int)
      · rw [if_pos c5] at H
        have c5b0 : decide (1 < (l1.length : Int)) = true := decide_eq_true c5
        have c5b1 : decide (1 < l1.length) = true := decide_eq_true (by omega)
        clear c5
        by_cases c6 : ((rd_T52 l1 1).f1) = 8219
        · rw [if_pos c6] at H
          have c6b0 : (((rd_T52 l1 1).f1) == 8219) = true := beq_iff_eq.mpr c6
          have c6b1 : (((rd_T52 l1 1).f1) != 8219) = false := bne_eq_false_iff_eq.mpr c6
          clear c6
          have H' := Aside0.mk H
          clear H
          have p220 : 0 ≤ (1 : Int) := (by omega)
          have q220 : 1 < (l1.length : Int) := of_decide_eq_true (by first | (with_reducible assumption) | assumption)
          obtain ⟨ad220, e220, hx220_0, hx220_1, hx220_2⟩ := at_T52 HR1.out 1 p220 q220
          cases e220
          (try simp only [show (1 : Int).toNat = 1 from rfl, Nat.reduceMul, Nat.reduceEqDiff, Go.Addr.add, ↓reduceIte] at hx220_0)
          (try simp only [show (1 : Int).toNat = 1 from rfl, Nat.reduceMul, Nat.reduceEqDiff, Go.Addr.add, ↓reduceIte] at hx220_1)
          (try simp only [show (1 : Int).toNat = 1 from rfl, Nat.reduceMul, Nat.reduceEqDiff, Go.Addr.add, ↓reduceIte] at hx220_2)
          have qi220 : (1 < l1.length) = True := eq_true (by omega)
          (try rw [show ((1 : Int)).toNat = 1 from rfl] at hx220_0)
          (try rw [show 1 * 3 = 3 from rfl] at hx220_0)
          (try rw [show ((1 : Int)).toNat = 1 from rfl] at hx220_1)
          (try rw [show 1 * 3 = 3 from rfl] at hx220_1)
          (try rw [show ((1 : Int)).toNat = 1 from rfl] at hx220_2)
          (try rw [show 1 * 3 = 3 from rfl] at hx220_2)
          replace hx220_0 := (HB.out.cell (World.block_lt_of_cell? w _ hx220_0)).trans hx220_0
          replace hx220_1 := (HB.out.cell (World.block_lt_of_cell? w _ hx220_1)).trans hx220_1
          replace hx220_2 := (HB.out.cell (World.block_lt_of_cell? w _ hx220_2)).trans hx220_2
          replace p220 := eq_true p220
          replace q220 := eq_true q220
          go_wp2
          go_meet
          case rel => exact ⟨_, (true), (by first | rfl | (simp; done) | (simp [*]; done)), H', ⟨by first | omega | exact Nat.le_refl _⟩, ⟨by repeat (first | (with_reducible first | exact HB.out | apply below_alloc | apply pw_below_drewN | apply below_drew1) | exact HB.out)⟩⟩
        · rw [if_neg c6] at H
          have c6b0 : (((rd_T52 l1 1).f1) == 8219) = false := beq_eq_false_iff_ne.mpr c6
          have c6b1 : (((rd_T52 l1 1).f1) != 8219) = true := bne_iff_ne.mpr c6
          replace H := Option.bind_eq_some_iff.mp H
          obtain ⟨t222, A70, H⟩ := H
          replace H : (if t222 ≥ 0 then ((spec_SignOf.f k ((rd_T52 l1 1).f1)).bind fun t224 => ((spec_Takes.f k a0 t224).bind fun t225 => (spec_unquoted.j0 k a0 l1 t225))) else (spec_unquoted.j0 k a0 l1 false)) = some (r1, r2) := H
          have A7 := Aside0.mk A70
          clear A70
          by_cases c8 : t222 ≥ 0
          · rw [if_pos c8] at H
            have c8b0 : decide (0 ≤ t222) = true := decide_eq_true c8
            clear c8
            replace H := Option.bind_eq_some_iff.mp H
            obtain ⟨t224, A90, H⟩ := H
            obtain rfl : t222 = t224 := Option.some.inj (A7.out.symm.trans A90)
            replace H : ((spec_Takes.f k a0 t222).bind fun t225 => (spec_unquoted.j0 k a0 l1 t225)) = some (r1, r2) := H
            have A9 := Aside0.mk A90
            clear A90
            replace H := Option.bind_eq_some_iff.mp H
            obtain ⟨t225, A100, H⟩ := H
            replace H : (spec_unquoted.j0 k a0 l1 t225) = some (r1, r2) := H
            have A10 := Aside0.mk A100
            clear A100
            have H' := Aside0.mk H
            clear H
            have p220 : 0 ≤ (1 : Int) := (by omega)
            have q220 : 1 < (l1.length : Int) := of_decide_eq_true (by first | (with_reducible assumption) | assumption)
            obtain ⟨ad220, e220, hx220_0, hx220_1, hx220_2⟩ := at_T52 HR1.out 1 p220 q220
            cases e220
            (try simp only [show (1 : Int).toNat = 1 from rfl, Nat.reduceMul, Nat.reduceEqDiff, Go.Addr.add, ↓reduceIte] at hx220_0)
            (try simp only [show (1 : Int).toNat = 1 from rfl, Nat.reduceMul, Nat.reduceEqDiff, Go.Addr.add, ↓reduceIte] at hx220_1)
            (try simp only [show (1 : Int).toNat = 1 from rfl, Nat.reduceMul, Nat.reduceEqDiff, Go.Addr.add, ↓reduceIte] at hx220_2)
            have qi220 : (1 < l1.length) = True := eq_true (by omega)
            (try rw [show ((1 : Int)).toNat = 1 from rfl] at hx220_0)
            (try rw [show 1 * 3 = 3 from rfl] at hx220_0)
            (try rw [show ((1 : Int)).toNat = 1 from rfl] at hx220_1)
            (try rw [show 1 * 3 = 3 from rfl] at hx220_1)
            (try rw [show ((1 : Int)).toNat = 1 from rfl] at hx220_2)
            (try rw [show 1 * 3 = 3 from rfl] at hx220_2)
            replace hx220_0 := (HB.out.cell (World.block_lt_of_cell? w _ hx220_0)).trans hx220_0
            replace hx220_1 := (HB.out.cell (World.block_lt_of_cell? w _ hx220_1)).trans hx220_1
            replace hx220_2 := (HB.out.cell (World.block_lt_of_cell? w _ hx220_2)).trans hx220_2
            replace p220 := eq_true p220
            replace q220 := eq_true q220
            have p221 : 0 ≤ (1 : Int) := (by omega)
            have q221 : 1 < (l1.length : Int) := of_decide_eq_true (by first | (with_reducible assumption) | assumption)
            obtain ⟨ad221, e221, hx221_0, hx221_1, hx221_2⟩ := at_T52 HR1.out 1 p221 q221
            obtain rfl : ad220 = ad221 := (by injection e221)
            (try simp only [show (1 : Int).toNat = 1 from rfl, Nat.reduceMul, Nat.reduceEqDiff, Go.Addr.add, ↓reduceIte] at hx221_0)
            (try simp only [show (1 : Int).toNat = 1 from rfl, Nat.reduceMul, Nat.reduceEqDiff, Go.Addr.add, ↓reduceIte] at hx221_1)
            (try simp only [show (1 : Int).toNat = 1 from rfl, Nat.reduceMul, Nat.reduceEqDiff, Go.Addr.add, ↓reduceIte] at hx221_2)
            have qi221 : (1 < l1.length) = True := eq_true (by omega)
            (try rw [show ((1 : Int)).toNat = 1 from rfl] at hx221_0)
            (try rw [show 1 * 3 = 3 from rfl] at hx221_0)
            (try rw [show ((1 : Int)).toNat = 1 from rfl] at hx221_1)
            (try rw [show 1 * 3 = 3 from rfl] at hx221_1)
            (try rw [show ((1 : Int)).toNat = 1 from rfl] at hx221_2)
            (try rw [show 1 * 3 = 3 from rfl] at hx221_2)
            replace hx221_0 := (HB.out.cell (World.block_lt_of_cell? w _ hx221_0)).trans hx221_0
            replace hx221_1 := (HB.out.cell (World.block_lt_of_cell? w _ hx221_1)).trans hx221_1
            replace hx221_2 := (HB.out.cell (World.block_lt_of_cell? w _ hx221_2)).trans hx221_2
            replace p221 := eq_true p221
            replace q221 := eq_true q221
            go_wp2_with (first | (go_at_call 45; (with_reducible refine (spec_SignOf.calls k ((rd_T52 l1 1).f1) t222 _ A7.out).mono ?_); rintro e w' ⟨rfl, ⟨nd, rfl⟩⟩; have p223 : 0 ≤ (1 : Int) := (by omega); have q223 : 1 < (l1.length : Int) := of_decide_eq_true (by first | (with_reducible assumption) | assumption); obtain ⟨ad223, e223, hx223_0, hx223_1, hx223_2⟩ := at_T52 HR1.out 1 p223 q223; obtain rfl : ad220 = ad223 := (by injection e223); (try simp only [show (1 : Int).toNat = 1 from rfl, Nat.reduceMul, Nat.reduceEqDiff, Go.Addr.add, ↓reduceIte] at hx223_0); (try simp only [show (1 : Int).toNat = 1 from rfl, Nat.reduceMul, Nat.reduceEqDiff, Go.Addr.add, ↓reduceIte] at hx223_1); (try simp only [show (1 : Int).toNat = 1 from rfl, Nat.reduceMul, Nat.reduceEqDiff, Go.Addr.add, ↓reduceIte] at hx223_2); have qi223 : (1 < l1.length) = True := eq_true (by omega); (try rw [show ((1 : Int)).toNat = 1 from rfl] at hx223_0); (try rw [show 1 * 3 = 3 from rfl] at hx223_0); (try rw [show ((1 : Int)).toNat = 1 from rfl] at hx223_1); (try rw [show 1 * 3 = 3 from rfl] at hx223_1); (try rw [show ((1 : Int)).toNat = 1 from rfl] at hx223_2); (try rw [show 1 * 3 = 3 from rfl] at hx223_2); replace hx223_0 := (HB.out.cell (World.block_lt_of_cell? w _ hx223_0)).trans hx223_0; replace hx223_1 := (HB.out.cell (World.block_lt_of_cell? w _ hx223_1)).trans hx223_1; replace hx223_2 := (HB.out.cell (World.block_lt_of_cell? w _ hx223_2)).trans hx223_2; replace p223 := eq_true p223; replace q223 := eq_true q223) | (go_at_call 45; (with_reducible refine (spec_SignOf.calls k ((rd_T52 l1 1).f1) t222 _ A9.out).mono ?_); rintro e w' ⟨rfl, ⟨nd, rfl⟩⟩) | (go_at_call 46; (with_reducible refine (spec_Takes.calls k a0 t222 t225 _ A10.out).mono ?_); rintro e w' ⟨rfl, ⟨nd, rfl⟩⟩))
            go_meet
            case rel => exact ⟨_, (t225), (by first | rfl | (simp; done) | (simp [*]; done)), H', ⟨by first | omega | exact Nat.le_refl _⟩, ⟨by repeat (first | (with_reducible first | exact HB.out | apply below_alloc | apply pw_below_drewN | apply below_drew1) | exact HB.out)⟩⟩
          · rw [if_neg c8] at H
            have c8b0 : decide (0 ≤ t222) = false := decide_eq_false c8
            clear c8
            have H' := Aside0.mk H
            clear H
            have p220 : 0 ≤ (1 : Int) := (by omega)
            have q220 : 1 < (l1.length : Int) := of_decide_eq_true (by first | (with_reducible assumption) | assumption)
            obtain ⟨ad220, e220, hx220_0, hx220_1, hx220_2⟩ := at_T52 HR1.out 1 p220 q220
            cases e220
            (try simp only [show (1 : Int).toNat = 1 from rfl, Nat.reduceMul, Nat.reduceEqDiff, Go.Addr.add, ↓reduceIte] at hx220_0)
            (try simp only [show (1 : Int).toNat = 1 from rfl, Nat.reduceMul, Nat.reduceEqDiff, Go.Addr.add, ↓reduceIte] at hx220_1)
            (try simp only [show (1 : Int).toNat = 1 from rfl, Nat.reduceMul, Nat.reduceEqDiff, Go.Addr.add, ↓reduceIte] at hx220_2)
            have qi220 : (1 < l1.length) = True := eq_true (by omega)
            (try rw [show ((1 : Int)).toNat = 1 from rfl] at hx220_0)
            (try rw [show 1 * 3 = 3 from rfl] at hx220_0)
            (try rw [show ((1 : Int)).toNat = 1 from rfl] at hx220_1)
            (try rw [show 1 * 3 = 3 from rfl] at hx220_1)
            (try rw [show ((1 : Int)).toNat = 1 from rfl] at hx220_2)
            (try rw [show 1 * 3 = 3 from rfl] at hx220_2)
            replace hx220_0 := (HB.out.cell (World.block_lt_of_cell? w _ hx220_0)).trans hx220_0
            replace hx220_1 := (HB.out.cell (World.block_lt_of_cell? w _ hx220_1)).trans hx220_1
            replace hx220_2 := (HB.out.cell (World.block_lt_of_cell? w _ hx220_2)).trans hx220_2
            replace p220 := eq_true p220
            replace q220 := eq_true q220
            have p221 : 0 ≤ (1 : Int) := (by omega)
            have q221 : 1 < (l1.length : Int) := of_decide_eq_true (by first | (with_reducible assumption) | assumption)
            obtain ⟨ad221, e221, hx221_0, hx221_1, hx221_2⟩ := at_T52 HR1.out 1 p221 q221
            obtain rfl : ad220 = ad221 := (by injection e221)
            (try simp only [show (1 : Int).toNat = 1 from rfl, Nat.reduceMul, Nat.reduceEqDiff, Go.Addr.add, ↓reduceIte] at hx221_0)
            (try simp only [show (1 : Int).toNat = 1 from rfl, Nat.reduceMul, Nat.reduceEqDiff, Go.Addr.add, ↓reduceIte] at hx221_1)
            (try simp only [show (1 : Int).toNat = 1 from rfl, Nat.reduceMul, Nat.reduceEqDiff, Go.Addr.add, ↓reduceIte] at hx221_2)
            have qi221 : (1 < l1.length) = True := eq_true (by omega)
            (try rw [show ((1 : Int)).toNat = 1 from rfl] at hx221_0)
            (try rw [show 1 * 3 = 3 from rfl] at hx221_0)
            (try rw [show ((1 : Int)).toNat = 1 from rfl] at hx221_1)
            (try rw [show 1 * 3 = 3 from rfl] at hx221_1)
            (try rw [show ((1 : Int)).toNat = 1 from rfl] at hx221_2)
            (try rw [show 1 * 3 = 3 from rfl] at hx221_2)
            replace hx221_0 := (HB.out.cell (World.block_lt_of_cell? w _ hx221_0)).trans hx221_0
            replace hx221_1 := (HB.out.cell (World.block_lt_of_cell? w _ hx221_1)).trans hx221_1
            replace hx221_2 := (HB.out.cell (World.block_lt_of_cell? w _ hx221_2)).trans hx221_2
            replace p221 := eq_true p221
            replace q221 := eq_true q221
            go_wp2_with (first | (go_at_call 45; (with_reducible refine (spec_SignOf.calls k ((rd_T52 l1 1).f1) t222 _ A7.out).mono ?_); rintro e w' ⟨rfl, ⟨nd, rfl⟩⟩))
            go_meet
            case rel => exact ⟨_, (false), (by first | rfl | (simp; done) | (simp [*]; done)), H', ⟨by first | omega | exact Nat.le_refl _⟩, ⟨by repeat (first | (with_reducible first | exact HB.out | apply below_alloc | apply pw_below_drewN | apply below_drew1) | exact HB.out)⟩⟩
      · rw [if_neg c5] at H
        exact absurd H (by simp)
    · rw [if_neg c4] at H
      have c4b0 : decide (1 < (l1.length : Int)) = false := decide_eq_false c4
      have c4b1 : decide (1 < l1.length) = false := decide_eq_false (by omega)
      clear c4
      (first | rw [c4b0] | (simp only [i64_w, i32_w]; rw [c4b0]) | skip)
      have H' := Aside0.mk H
      clear H
      go_wp2
      go_meet
      case rel => exact ⟨_, (false), (by first | rfl | (simp; done) | (simp [*]; done)), H', ⟨by first | omega | exact Nat.le_refl _⟩, ⟨by repeat (first | (with_reducible first | exact HB.out | apply below_alloc | apply pw_below_drewN | apply below_drew1) | exact HB.out)⟩⟩
  case rest =>
    clear HC3
    try clear c1
    try clear p2
    try clear q2
    try clear hx2
    try clear qi2
    try clear c4
    try clear c4b0
    try clear c4b1
    try clear c5
    try clear c5b0
    try clear c5b1
    try clear c6
    try clear c6b0
    try clear c6b1
    try clear c8
    try clear c8b0
    try clear hx220_0
    try clear hx220_1
    try clear hx220_2
    try clear hx221_0
    try clear hx221_1
    try clear hx221_2
    try clear hx223_0
    try clear hx223_1
    try clear hx223_2
    try clear p220
    try clear p221
    try clear p223
    try clear q220
    try clear q221
    try clear q223
    obtain ⟨kq, x32_2, rfl, HA, HJ2, HB⟩ := hcut
    cases kq with
    | zero => exact absurd HA.out (by simp [spec_unquoted.j0])
    | succ kj2 =>
      have H := HA.out
      clear HA
      simp only [spec_unquoted.j0] at H
      by_cases c11 : x32_2 = true
      · subst c11
        have H1 : (if 1 < (l1.length : Int) then (some ((rd_T52 l1 1).f0, 2)) else (none)) = some (r1, r2) := by rw [if_pos rfl] at H; exact H
        clear H
        have H := H1
        clear H1
        by_cases c12 : 1 < (l1.length : Int)
        · rw [if_pos c12] at H
          have c12b0 : decide (1 < (l1.length : Int)) = true := decide_eq_true c12
          have c12b1 : decide (1 < l1.length) = true := decide_eq_true (by omega)
          clear c12
          simp only [Option.some.injEq, Prod.mk.injEq] at H
          obtain ⟨rfl, rfl⟩ := H
          have p226 : 0 ≤ (1 : Int) := (by omega)
          have q226 : 1 < (l1.length : Int) := of_decide_eq_true (by first | (with_reducible assumption) | assumption)
          obtain ⟨ad226, e226, hx226_0, hx226_1, hx226_2⟩ := at_T52 HR1.out 1 p226 q226
          cases e226
          (try simp only [show (1 : Int).toNat = 1 from rfl, Nat.reduceMul, Nat.reduceEqDiff, Go.Addr.add, ↓reduceIte] at hx226_0)
          (try simp only [show (1 : Int).toNat = 1 from rfl, Nat.reduceMul, Nat.reduceEqDiff, Go.Addr.add, ↓reduceIte] at hx226_1)
          (try simp only [show (1 : Int).toNat = 1 from rfl, Nat.reduceMul, Nat.reduceEqDiff, Go.Addr.add, ↓reduceIte] at hx226_2)
          have qi226 : (1 < l1.length) = True := eq_true (by omega)
          (try rw [show ((1 : Int)).toNat = 1 from rfl] at hx226_0)
          (try rw [show 1 * 3 = 3 from rfl] at hx226_0)
          (try rw [show ((1 : Int)).toNat = 1 from rfl] at hx226_1)
          (try rw [show 1 * 3 = 3 from rfl] at hx226_1)
          (try rw [show ((1 : Int)).toNat = 1 from rfl] at hx226_2)
          (try rw [show 1 * 3 = 3 from rfl] at hx226_2)
          replace hx226_0 := (HB.out.cell (World.block_lt_of_cell? w _ hx226_0)).trans hx226_0
          replace hx226_1 := (HB.out.cell (World.block_lt_of_cell? w _ hx226_1)).trans hx226_1
          replace hx226_2 := (HB.out.cell (World.block_lt_of_cell? w _ hx226_2)).trans hx226_2
          replace p226 := eq_true p226
          replace q226 := eq_true q226
          go_wp2
          go_ret2
          exact ⟨by first | rfl | (simp [errW_none, errW_some] <;> rfl) | (simp [*, errW_none, errW_some] <;> rfl), by repeat (first | (with_reducible first | exact HB.out | apply below_alloc | apply pw_below_drewN | apply below_drew1) | exact HB.out)⟩
        · rw [if_neg c12] at H
          exact absurd H (by simp)
      · replace c11 := Bool.eq_false_iff.mpr c11
        subst c11
        have H1 : (if (Go.bits .and .u64 a0 16777216) = 0 then (spec_unquoted.j1 kj2 l1 false) else (if (l1.length : Int) > 2 then (if 1 < (l1.length : Int) then ((spec_hexValue.f kj2 ((rd_T52 l1 1).f0) ((rd_T52 l1 1).f1) ((rd_T52 l1 1).f2)).bind fun t228 => (if t228 ≥ 0 then (if 2 < (l1.length : Int) then ((spec_hexValue.f kj2 ((rd_T52 l1 2).f0) ((rd_T52 l1 2).f1) ((rd_T52 l1 2).f2)).bind fun t230 => (spec_unquoted.j1 kj2 l1 (decide (t230 ≥ 0)))) else (none)) else (spec_unquoted.j1 kj2 l1 false))) else (none)) else (spec_unquoted.j1 kj2 l1 false))) = some (r1, r2) := by rw [if_neg (show ¬ (false = true) by decide)] at H; exact H
        clear H
        have H := H1
        clear H1
        have HC13 := Aside0.mk H
        clear H
        go_upto_region 3 with (fail)
        go_cut [58] (fun v58 wc => ∃ (kq : Nat) (x58_12 : Bool), v58 = .bool x58_12 ∧ Aside0 (spec_unquoted.j1 kq l1 x58_12 = some (r1, r2)) ∧ Aside0 (kq ≤ kj2) ∧ Aside0 (Below w.heap.size w wc))
        case first =>
          have H := HC13.out
          clear HC13
          by_cases c14 : (Go.bits .and .u64 a0 16777216) = 0
          · rw [if_pos c14] at H
            have c14b0 : ((Go.bits .and .u64 a0 16777216) == 0) = true := beq_iff_eq.mpr c14
            have c14b1 : ((Go.bits .and .u64 a0 16777216) != 0) = false := bne_eq_false_iff_eq.mpr c14
            clear c14
            (first | rw [c14b0] | (simp only [i64_w, i32_w]; rw [c14b0]) | skip)
            have H' := Aside0.mk H
            clear H
            go_wp2
            go_meet
            case rel => exact ⟨_, (false), (by first | rfl | (simp; done) | (simp [*]; done)), H', ⟨by have := HJ2.out; first | omega | exact Nat.le_refl _⟩, ⟨by repeat (first | (with_reducible first | exact HB.out | apply below_alloc | apply pw_below_drewN | apply below_drew1) | exact HB.out)⟩⟩
          · rw [if_neg c14] at H
            have c14b0 : ((Go.bits .and .u64 a0 16777216) == 0) = false := beq_eq_false_iff_ne.mpr c14
            have c14b1 : ((Go.bits .and .u64 a0 16777216) != 0) = true := bne_iff_ne.mpr c14
            (first | rw [c14b0] | (simp only [i64_w, i32_w]; rw [c14b0]) | skip)
            by_cases c15 : (l1.length : Int) > 2
            · rw [if_pos c15] at H
              have c15b0 : decide (2 < (l1.length : Int)) = true := decide_eq_true c15
              have c15b1 : decide (2 < l1.length) = true := decide_eq_true (by omega)
              clear c15
              by_cases c16 : 1 < (l1.length : Int)
              · rw [if_pos c16] at H
                have c16b0 : decide (1 < (l1.length : Int)) = true := decide_eq_true c16
                have c16b1 : decide (1 < l1.length) = true := decide_eq_true (by omega)
                clear c16
                replace H := Option.bind_eq_some_iff.mp H
                obtain ⟨t228, A170, H⟩ := H
                replace H : (if t228 ≥ 0 then (if 2 < (l1.length : Int) then ((spec_hexValue.f kj2 ((rd_T52 l1 2).f0) ((rd_T52 l1 2).f1) ((rd_T52 l1 2).f2)).bind fun t230 => (spec_unquoted.j1 kj2 l1 (decide (t230 ≥ 0)))) else (none)) else (spec_unquoted.j1 kj2 l1 false)) = some (r1, r2) := H
                have A17 := Aside0.mk A170
                clear A170
                by_cases c18 : t228 ≥ 0
                · rw [if_pos c18] at H
                  have c18b0 : decide (0 ≤ t228) = true := decide_eq_true c18
                  clear c18
                  by_cases c19 : 2 < (l1.length : Int)
                  · rw [if_pos c19] at H
                    have c19b0 : decide (2 < (l1.length : Int)) = true := decide_eq_true c19
                    have c19b1 : decide (2 < l1.length) = true := decide_eq_true (by omega)
                    clear c19
                    replace H := Option.bind_eq_some_iff.mp H
                    obtain ⟨t230, A200, H⟩ := H
                    replace H : (spec_unquoted.j1 kj2 l1 (decide (t230 ≥ 0))) = some (r1, r2) := H
                    have A20 := Aside0.mk A200
                    clear A200
                    have H' := Aside0.mk H
                    clear H
                    have p227 : 0 ≤ (1 : Int) := (by omega)
                    have q227 : 1 < (l1.length : Int) := of_decide_eq_true (by first | (with_reducible assumption) | assumption)
                    obtain ⟨ad227, e227, hx227_0, hx227_1, hx227_2⟩ := at_T52 HR1.out 1 p227 q227
                    cases e227
                    (try simp only [show (1 : Int).toNat = 1 from rfl, Nat.reduceMul, Nat.reduceEqDiff, Go.Addr.add, ↓reduceIte] at hx227_0)
                    (try simp only [show (1 : Int).toNat = 1 from rfl, Nat.reduceMul, Nat.reduceEqDiff, Go.Addr.add, ↓reduceIte] at hx227_1)
                    (try simp only [show (1 : Int).toNat = 1 from rfl, Nat.reduceMul, Nat.reduceEqDiff, Go.Addr.add, ↓reduceIte] at hx227_2)
                    have qi227 : (1 < l1.length) = True := eq_true (by omega)
                    (try rw [show ((1 : Int)).toNat = 1 from rfl] at hx227_0)
                    (try rw [show 1 * 3 = 3 from rfl] at hx227_0)
                    (try rw [show ((1 : Int)).toNat = 1 from rfl] at hx227_1)
                    (try rw [show 1 * 3 = 3 from rfl] at hx227_1)
                    (try rw [show ((1 : Int)).toNat = 1 from rfl] at hx227_2)
                    (try rw [show 1 * 3 = 3 from rfl] at hx227_2)
                    replace hx227_0 := (HB.out.cell (World.block_lt_of_cell? w _ hx227_0)).trans hx227_0
                    replace hx227_1 := (HB.out.cell (World.block_lt_of_cell? w _ hx227_1)).trans hx227_1
                    replace hx227_2 := (HB.out.cell (World.block_lt_of_cell? w _ hx227_2)).trans hx227_2
                    replace p227 := eq_true p227
                    replace q227 := eq_true q227
                    go_wp2_with (first | (go_at_call 72; (with_reducible refine (spec_hexValue.calls kj2 ((rd_T52 l1 1).f0) ((rd_T52 l1 1).f1) ((rd_T52 l1 1).f2) t228 _ A17.out).mono ?_); rintro e w21 ⟨rfl, hb⟩; have n0_ := Aside0.mk (below_step (by repeat (first | (with_reducible first | exact HB.out | apply below_alloc | apply pw_below_drewN | apply below_drew1) | exact HB.out)) hb); clear HB; have HB := n0_; clear n0_; (try clear hb); (try clear hb2); (try clear hk); (try clear hi); have p229 : 0 ≤ (2 : Int) := (by omega); have q229 : 2 < (l1.length : Int) := of_decide_eq_true (by first | (with_reducible assumption) | assumption); obtain ⟨ad229, e229, hx229_0, hx229_1, hx229_2⟩ := at_T52 HR1.out 2 p229 q229; obtain rfl : ad227 = ad229 := (by injection e229); (try simp only [show (2 : Int).toNat = 2 from rfl, Nat.reduceMul, Nat.reduceEqDiff, Go.Addr.add, ↓reduceIte] at hx229_0); (try simp only [show (2 : Int).toNat = 2 from rfl, Nat.reduceMul, Nat.reduceEqDiff, Go.Addr.add, ↓reduceIte] at hx229_1); (try simp only [show (2 : Int).toNat = 2 from rfl, Nat.reduceMul, Nat.reduceEqDiff, Go.Addr.add, ↓reduceIte] at hx229_2); have qi229 : (2 < l1.length) = True := eq_true (by omega); (try rw [show ((2 : Int)).toNat = 2 from rfl] at hx229_0); (try rw [show 2 * 3 = 6 from rfl] at hx229_0); (try rw [show ((2 : Int)).toNat = 2 from rfl] at hx229_1); (try rw [show 2 * 3 = 6 from rfl] at hx229_1); (try rw [show ((2 : Int)).toNat = 2 from rfl] at hx229_2); (try rw [show 2 * 3 = 6 from rfl] at hx229_2); replace hx229_0 := (HB.out.cell (World.block_lt_of_cell? w _ hx229_0)).trans hx229_0; replace hx229_1 := (HB.out.cell (World.block_lt_of_cell? w _ hx229_1)).trans hx229_1; replace hx229_2 := (HB.out.cell (World.block_lt_of_cell? w _ hx229_2)).trans hx229_2; replace p229 := eq_true p229; replace q229 := eq_true q229) | (go_at_call 72; (with_reducible refine (spec_hexValue.calls kj2 ((rd_T52 l1 2).f0) ((rd_T52 l1 2).f1) ((rd_T52 l1 2).f2) t230 _ A20.out).mono ?_); rintro e w22 ⟨rfl, hb⟩; have n0_ := Aside0.mk (below_step (by repeat (first | (with_reducible first | exact HB.out | apply below_alloc | apply pw_below_drewN | apply below_drew1) | exact HB.out)) hb); clear HB; have HB := n0_; clear n0_; (try clear hb); (try clear hb2); (try clear hk); (try clear hi)))
                    go_meet
                    case rel => exact ⟨_, (decide (t230 ≥ 0)), (by first | rfl | (simp; done) | (simp [*]; done)), H', ⟨by have := HJ2.out; first | omega | exact Nat.le_refl _⟩, ⟨by repeat (first | (with_reducible first | exact HB.out | apply below_alloc | apply pw_below_drewN | apply below_drew1) | exact HB.out)⟩⟩
                  · rw [if_neg c19] at H
                    exact absurd H (by simp)
                · rw [if_neg c18] at H
                  have c18b0 : decide (0 ≤ t228) = false := decide_eq_false c18
                  clear c18
                  have H' := Aside0.mk H
                  clear H
                  have p227 : 0 ≤ (1 : Int) := (by omega)
                  have q227 : 1 < (l1.length : Int) := of_decide_eq_true (by first | (with_reducible assumption) | assumption)
                  obtain ⟨ad227, e227, hx227_0, hx227_1, hx227_2⟩ := at_T52 HR1.out 1 p227 q227
                  cases e227
                  (try simp only [show (1 : Int).toNat = 1 from rfl, Nat.reduceMul, Nat.reduceEqDiff, Go.Addr.add, ↓reduceIte] at hx227_0)
                  (try simp only [show (1 : Int).toNat = 1 from rfl, Nat.reduceMul, Nat.reduceEqDiff, Go.Addr.add, ↓reduceIte] at hx227_1)
                  (try simp only [show (1 : Int).toNat = 1 from rfl, Nat.reduceMul, Nat.reduceEqDiff, Go.Addr.add, ↓reduceIte] at hx227_2)
                  have qi227 : (1 < l1.length) = True := eq_true (by omega)
                  (try rw [show ((1 : Int)).toNat = 1 from rfl] at hx227_0)
                  (try rw [show 1 * 3 = 3 from rfl] at hx227_0)
                  (try rw [show ((1 : Int)).toNat = 1 from rfl] at hx227_1)
                  (try rw [show 1 * 3 = 3 from rfl] at hx227_1)
                  (try rw [show ((1 : Int)).toNat = 1 from rfl] at hx227_2)
                  (try rw [show 1 * 3 = 3 from rfl] at hx227_2)
                  replace hx227_0 := (HB.out.cell (World.block_lt_of_cell? w _ hx227_0)).trans hx227_0
                  replace hx227_1 := (HB.out.cell (World.block_lt_of_cell? w _ hx227_1)).trans hx227_1
                  replace hx227_2 := (HB.out.cell (World.block_lt_of_cell? w _ hx227_2)).trans hx227_2
                  replace p227 := eq_true p227
                  replace q227 := eq_true q227
                  go_wp2_with (first | (go_at_call 72; (with_reducible refine (spec_hexValue.calls kj2 ((rd_T52 l1 1).f0) ((rd_T52 l1 1).f1) ((rd_T52 l1 1).f2) t228 _ A17.out).mono ?_); rintro e w23 ⟨rfl, hb⟩; have n0_ := Aside0.mk (below_step (by repeat (first | (with_reducible first | exact HB.out | apply below_alloc | apply pw_below_drewN | apply below_drew1) | exact HB.out)) hb); clear HB; have HB := n0_; clear n0_; (try clear hb); (try clear hb2); (try clear hk); (try clear hi)))
                  go_meet
                  case rel => exact ⟨_, (false), (by first | rfl | (simp; done) | (simp [*]; done)), H', ⟨by have := HJ2.out; first | omega | exact Nat.le_refl _⟩, ⟨by repeat (first | (with_reducible first | exact HB.out | apply below_alloc | apply pw_below_drewN | apply below_drew1) | exact HB.out)⟩⟩
              · rw [if_neg c16] at H
                exact absurd H (by simp)
            · rw [if_neg c15] at H
              have c15b0 : decide (2 < (l1.length : Int)) = false := decide_eq_false c15
              have c15b1 : decide (2 < l1.length) = false := decide_eq_false (by omega)
              clear c15
              have H' := Aside0.mk H
              clear H
              go_wp2
              go_meet
              case rel => exact ⟨_, (false), (by first | rfl | (simp; done) | (simp [*]; done)), H', ⟨by have := HJ2.out; first | omega | exact Nat.le_refl _⟩, ⟨by repeat (first | (with_reducible first | exact HB.out | apply below_alloc | apply pw_below_drewN | apply below_drew1) | exact HB.out)⟩⟩
        case rest =>
          clear HC13
          try clear c1
          try clear p2
          try clear q2
          try clear hx2
          try clear qi2
          try clear c4
          try clear c4b0
          try clear c4b1
          try clear c5
          try clear c5b0
          try clear c5b1
          try clear c6
          try clear c6b0
          try clear c6b1
          try clear c8
          try clear c8b0
          try clear c11
          try clear c12
          try clear c12b0
          try clear c12b1
          try clear c14
          try clear c14b0
          try clear c14b1
          try clear c15
          try clear c15b0
          try clear c15b1
          try clear c16
          try clear c16b0
          try clear c16b1
          try clear c18
          try clear c18b0
          try clear c19
          try clear c19b0
          try clear c19b1
          try clear p22
          try clear q22
          try clear hx22
          try clear qi22
          try clear hx220_0
          try clear hx220_1
          try clear hx220_2
          try clear hx221_0
          try clear hx221_1
          try clear hx221_2
          try clear hx223_0
          try clear hx223_1
          try clear hx223_2
          try clear hx226_0
          try clear hx226_1
          try clear hx226_2
          try clear hx227_0
          try clear hx227_1
          try clear hx227_2
          try clear hx229_0
          try clear hx229_1
          try clear hx229_2
          try clear p2
          try clear p220
          try clear p221
          try clear p223
          try clear p226
          try clear p227
          try clear p229
          try clear q2
          try clear q220
          try clear q221
          try clear q223
          try clear q226
          try clear q227
          try clear q229
          obtain ⟨kq, x58_12, rfl, HA, HJ12, HB⟩ := hcut
          cases kq with
          | zero => exact absurd HA.out (by simp [spec_unquoted.j1])
          | succ kj12 =>
            have H := HA.out
            clear HA
            simp only [spec_unquoted.j1] at H
            by_cases c24 : x58_12 = true
            · subst c24
              have H1 : (if 1 < (l1.length : Int) then ((spec_hexValue.f kj12 ((rd_T52 l1 1).f0) ((rd_T52 l1 1).f1) ((rd_T52 l1 1).f2)).bind fun t232 => (if 2 < (l1.length : Int) then ((spec_hexValue.f kj12 ((rd_T52 l1 2).f0) ((rd_T52 l1 2).f1) ((rd_T52 l1 2).f2)).bind fun t234 => (some (strOfNums (([(wrap64 ((wrap64 (16 * t232)) + t234)) % 256] : List Int)), 3))) else (none))) else (none)) = some (r1, r2) := by rw [if_pos rfl] at H; exact H
              clear H
              have H := H1
              clear H1
              by_cases c25 : 1 < (l1.length : Int)
              · rw [if_pos c25] at H
                have c25b0 : decide (1 < (l1.length : Int)) = true := decide_eq_true c25
                have c25b1 : decide (1 < l1.length) = true := decide_eq_true (by omega)
                clear c25
                replace H := Option.bind_eq_some_iff.mp H
                obtain ⟨t232, A260, H⟩ := H
                replace H : (if 2 < (l1.length : Int) then ((spec_hexValue.f kj12 ((rd_T52 l1 2).f0) ((rd_T52 l1 2).f1) ((rd_T52 l1 2).f2)).bind fun t234 => (some (strOfNums (([(wrap64 ((wrap64 (16 * t232)) + t234)) % 256] : List Int)), 3))) else (none)) = some (r1, r2) := H
                have A26 := Aside0.mk A260
                clear A260
                by_cases c27 : 2 < (l1.length : Int)
                · rw [if_pos c27] at H
                  have c27b0 : decide (2 < (l1.length : Int)) = true := decide_eq_true c27
                  have c27b1 : decide (2 < l1.length) = true := decide_eq_true (by omega)
                  clear c27
                  replace H := Option.bind_eq_some_iff.mp H
                  obtain ⟨t234, A280, H⟩ := H
                  replace H : (some (strOfNums (([(wrap64 ((wrap64 (16 * t232)) + t234)) % 256] : List Int)), 3)) = some (r1, r2) := H
                  have A28 := Aside0.mk A280
                  clear A280
                  obtain ⟨y235, hy235⟩ : ∃ y_ : List Int, y_ = (([(wrap64 ((wrap64 (16 * t232)) + t234)) % 256] : List Int)) := ⟨_, rfl⟩
                  replace H : (some (strOfNums y235, 3)) = some (r1, r2) := by first | (rw [hy235]; with_reducible exact H) | (have H2_ := (Option.bind_some _ _).symm.trans H; rw [hy235]; with_reducible exact H2_) | (have H2_ := (Option.bind_some _ _).symm.trans H; with_reducible exact H2_) | with_reducible exact H | (rw [hy235]; exact H) | exact H
                  have Ny235 := Aside0.mk hy235
                  clear hy235
                  simp only [Option.some.injEq, Prod.mk.injEq] at H
                  obtain ⟨rfl, rfl⟩ := H
                  try go_wp2
                  have n0_ := Aside0.mk (below_drew1 HB.out)
                  clear HB
                  have HB := n0_
                  clear n0_
                  have p231 : 0 ≤ (1 : Int) := (by omega)
                  have q231 : 1 < (l1.length : Int) := of_decide_eq_true (by first | (with_reducible assumption) | assumption)
                  obtain ⟨ad231, e231, hx231_0, hx231_1, hx231_2⟩ := at_T52 HR1.out 1 p231 q231
                  have hw231_2 := hx231_2
                  (try rw [show ((1 : Int)).toNat = 1 from rfl] at hw231_2)
                  (try rw [show 1 * 3 = 3 from rfl] at hw231_2)
                  (try simp only [Nat.reduceMul, Nat.reduceEqDiff, Go.Addr.add, ↓reduceIte] at hw231_2)
                  have hw231_1 := hx231_1
                  (try rw [show ((1 : Int)).toNat = 1 from rfl] at hw231_1)
                  (try rw [show 1 * 3 = 3 from rfl] at hw231_1)
                  (try simp only [Nat.reduceMul, Nat.reduceEqDiff, Go.Addr.add, ↓reduceIte] at hw231_1)
                  have hw231_0 := hx231_0
                  (try rw [show ((1 : Int)).toNat = 1 from rfl] at hw231_0)
                  (try rw [show 1 * 3 = 3 from rfl] at hw231_0)
                  (try simp only [Nat.reduceMul, Nat.reduceEqDiff, Go.Addr.add, ↓reduceIte] at hw231_0)
                  cases e231
                  (try simp only [show (1 : Int).toNat = 1 from rfl, Nat.reduceMul, Nat.reduceEqDiff, Go.Addr.add, ↓reduceIte] at hx231_0)
                  (try simp only [show (1 : Int).toNat = 1 from rfl, Nat.reduceMul, Nat.reduceEqDiff, Go.Addr.add, ↓reduceIte] at hx231_1)
                  (try simp only [show (1 : Int).toNat = 1 from rfl, Nat.reduceMul, Nat.reduceEqDiff, Go.Addr.add, ↓reduceIte] at hx231_2)
                  have qi231 : (1 < l1.length) = True := eq_true (by omega)
                  (try rw [show ((1 : Int)).toNat = 1 from rfl] at hx231_0)
                  (try rw [show 1 * 3 = 3 from rfl] at hx231_0)
                  (try rw [show ((1 : Int)).toNat = 1 from rfl] at hx231_1)
                  (try rw [show 1 * 3 = 3 from rfl] at hx231_1)
                  (try rw [show ((1 : Int)).toNat = 1 from rfl] at hx231_2)
                  (try rw [show 1 * 3 = 3 from rfl] at hx231_2)
                  replace hx231_0 := (HB.out.cell (World.block_lt_of_cell? w _ hx231_0)).trans hx231_0
                  replace hx231_1 := (HB.out.cell (World.block_lt_of_cell? w _ hx231_1)).trans hx231_1
                  replace hx231_2 := (HB.out.cell (World.block_lt_of_cell? w _ hx231_2)).trans hx231_2
                  replace p231 := eq_true p231
                  replace q231 := eq_true q231
                  have p233 : 0 ≤ (2 : Int) := (by omega)
                  have q233 : 2 < (l1.length : Int) := of_decide_eq_true (by first | (with_reducible assumption) | assumption)
                  obtain ⟨ad233, e233, hx233_0, hx233_1, hx233_2⟩ := at_T52 HR1.out 2 p233 q233
                  have hw233_2 := hx233_2
                  (try rw [show ((2 : Int)).toNat = 2 from rfl] at hw233_2)
                  (try rw [show 2 * 3 = 6 from rfl] at hw233_2)
                  (try simp only [Nat.reduceMul, Nat.reduceEqDiff, Go.Addr.add, ↓reduceIte] at hw233_2)
                  have hw233_1 := hx233_1
                  (try rw [show ((2 : Int)).toNat = 2 from rfl] at hw233_1)
                  (try rw [show 2 * 3 = 6 from rfl] at hw233_1)
                  (try simp only [Nat.reduceMul, Nat.reduceEqDiff, Go.Addr.add, ↓reduceIte] at hw233_1)
                  have hw233_0 := hx233_0
                  (try rw [show ((2 : Int)).toNat = 2 from rfl] at hw233_0)
                  (try rw [show 2 * 3 = 6 from rfl] at hw233_0)
                  (try simp only [Nat.reduceMul, Nat.reduceEqDiff, Go.Addr.add, ↓reduceIte] at hw233_0)
                  obtain rfl : ad231 = ad233 := (by injection e233)
                  (try simp only [show (2 : Int).toNat = 2 from rfl, Nat.reduceMul, Nat.reduceEqDiff, Go.Addr.add, ↓reduceIte] at hx233_0)
                  (try simp only [show (2 : Int).toNat = 2 from rfl, Nat.reduceMul, Nat.reduceEqDiff, Go.Addr.add, ↓reduceIte] at hx233_1)
                  (try simp only [show (2 : Int).toNat = 2 from rfl, Nat.reduceMul, Nat.reduceEqDiff, Go.Addr.add, ↓reduceIte] at hx233_2)
                  have qi233 : (2 < l1.length) = True := eq_true (by omega)
                  (try rw [show ((2 : Int)).toNat = 2 from rfl] at hx233_0)
                  (try rw [show 2 * 3 = 6 from rfl] at hx233_0)
                  (try rw [show ((2 : Int)).toNat = 2 from rfl] at hx233_1)
                  (try rw [show 2 * 3 = 6 from rfl] at hx233_1)
                  (try rw [show ((2 : Int)).toNat = 2 from rfl] at hx233_2)
                  (try rw [show 2 * 3 = 6 from rfl] at hx233_2)
                  replace hx233_0 := (HB.out.cell (World.block_lt_of_cell? w _ hx233_0)).trans hx233_0
                  replace hx233_1 := (HB.out.cell (World.block_lt_of_cell? w _ hx233_1)).trans hx233_1
                  replace hx233_2 := (HB.out.cell (World.block_lt_of_cell? w _ hx233_2)).trans hx233_2
                  replace p233 := eq_true p233
                  replace q233 := eq_true q233
                  refine start_ (n := 15) (S := fun w' => w'.cell? ⟨ad231.block, ad231.off + 3, none⟩ = some (.string ((rd_T52 l1 1).f0)) ∧ w'.cell? ⟨ad231.block, ad231.off + 3 + 1, none⟩ = some (.int .i32 ((rd_T52 l1 1).f1)) ∧ w'.cell? ⟨ad231.block, ad231.off + 3 + 2, none⟩ = some (.bool ((rd_T52 l1 1).f2)) ∧ w'.cell? ⟨ad231.block, ad231.off + 6, none⟩ = some (.string ((rd_T52 l1 2).f0)) ∧ w'.cell? ⟨ad231.block, ad231.off + 6 + 1, none⟩ = some (.int .i32 ((rd_T52 l1 2).f1)) ∧ w'.cell? ⟨ad231.block, ad231.off + 6 + 2, none⟩ = some (.bool ((rd_T52 l1 2).f2))) (ds := []) #[false, false, false, false, false, false, false, false, false, false, false, false, false, false, false] (by kernel_rfl) rfl rfl ⟨((HB.out.cell (World.block_lt_of_cell? w _ hw231_0)).trans hw231_0), ((HB.out.cell (World.block_lt_of_cell? w _ hw231_1)).trans hw231_1), ((HB.out.cell (World.block_lt_of_cell? w _ hw231_2)).trans hw231_2), ((HB.out.cell (World.block_lt_of_cell? w _ hw233_0)).trans hw233_0), ((HB.out.cell (World.block_lt_of_cell? w _ hw233_1)).trans hw233_1), ((HB.out.cell (World.block_lt_of_cell? w _ hw233_2)).trans hw233_2)⟩ (fun hHeld => ?_); refine with_tabW spec_unquoted.tab4 spec_unquoted.bits4 (fun HT_ HW_ => ?_)
                  generalize wc.drew = w29 at HB hx231_0 hx231_1 hx231_2 hx233_0 hx233_1 hx233_2 hHeld ⊢
                  refine pure_ (i := 0) (N := some 59) (v := ?_) (a' := ?_) #[true, false, false, false, false, false, false, false, false, false, false, false, false, false, false] rfl rfl (any_of HT_.out (by kernel_rfl)) (fun _ _ _ h => h) (Or.inl ⟨by rfl, ?_⟩) ?_ ?_
                  rotate_left
                  · intro w'
                    go_simp
                    with_reducible rfl
                  rotate_left
                  · simp only [Act.put, List.setIfInBounds_toArray, List.set_cons_zero, List.set_cons_succ, i64_w, i32_w]
                    rfl
                  refine pure_ (i := 1) (N := some 60) (v := ?_) (a' := ?_) #[true, true, false, false, false, false, false, false, false, false, false, false, false, false, false] rfl rfl (any_of HT_.out (by kernel_rfl)) (fun _ _ _ h => h) (Or.inl ⟨by rfl, ?_⟩) ?_ ?_
                  rotate_left
                  · intro w'
                    go_simp
                    with_reducible rfl
                  rotate_left
                  · simp only [Act.put, List.setIfInBounds_toArray, List.set_cons_zero, List.set_cons_succ, i64_w, i32_w]
                    rfl
                  refine pure_ (i := 5) (N := some 64) (v := ?_) (a' := ?_) #[true, true, false, false, false, true, false, false, false, false, false, false, false, false, false] rfl rfl (any_of HT_.out (by kernel_rfl)) (fun _ _ _ h => h) (Or.inl ⟨by rfl, ?_⟩) ?_ ?_
                  rotate_left
                  · intro w'
                    go_simp
                    with_reducible rfl
                  rotate_left
                  · simp only [Act.put, List.setIfInBounds_toArray, List.set_cons_zero, List.set_cons_succ, i64_w, i32_w]
                    rfl
                  refine pure_ (i := 6) (N := some 65) (v := ?_) (a' := ?_) #[true, true, false, false, false, true, true, false, false, false, false, false, false, false, false] rfl rfl (any_of HT_.out (by kernel_rfl)) (fun _ _ _ h => h) (Or.inl ⟨by rfl, ?_⟩) ?_ ?_
                  rotate_left
                  · intro w'
                    go_simp
                    with_reducible rfl
                  rotate_left
                  · simp only [Act.put, List.setIfInBounds_toArray, List.set_cons_zero, List.set_cons_succ, i64_w, i32_w]
                    rfl
                  refine take_ (i := 2) (N := some 61) (v := ?_) (a' := ?_) #[true, true, true, false, false, true, true, false, false, false, false, false, false, false, false] rfl rfl (take_ofW HT_.out HW_.out (by kernel_rfl)) (fun _ _ _ h => h) (Or.inl ⟨by rfl, ?_⟩) hHeld ?_ ?_
                  rotate_left
                  · rintro w' ⟨s0, s1, s2, s3, s4, s5⟩
                    go_simp
                    with_reducible rfl
                  rotate_left
                  · simp only [Act.put, List.setIfInBounds_toArray, List.set_cons_zero, List.set_cons_succ, i64_w, i32_w]
                    rfl
                  refine take_ (i := 7) (N := some 66) (v := ?_) (a' := ?_) #[true, true, true, false, false, true, true, true, false, false, false, false, false, false, false] rfl rfl (take_ofW HT_.out HW_.out (by kernel_rfl)) (fun _ _ _ h => h) (Or.inl ⟨by rfl, ?_⟩) hHeld ?_ ?_
                  rotate_left
                  · rintro w' ⟨s0, s1, s2, s3, s4, s5⟩
                    go_simp
                    with_reducible rfl
                  rotate_left
                  · simp only [Act.put, List.setIfInBounds_toArray, List.set_cons_zero, List.set_cons_succ, i64_w, i32_w]
                    rfl
                  refine one_ (i := 3) (N := some 62) #[true, true, true, true, false, true, true, true, false, false, false, false, false, false, false] rfl rfl (one_of HT_.out (by kernel_rfl)) (by decide) (fun K hK => ?_)
                  refine goes_ Tryd.func72 (by kernel_rfl) rfl #[.agg #[.string ((rd_T52 l1 1).f0), .int .i32 ((rd_T52 l1 1).f1), .bool ((rd_T52 l1 1).f2)]] (by rfl) rfl rfl (by (try simp only [List.map_toArray, List.map_cons, List.map_nil]); first | done | rfl | (simp only [List.length_drop, List.length_take]; rfl)) ?_
                  with_reducible refine (spec_hexValue.calls kj12 ((rd_T52 l1 1).f0) ((rd_T52 l1 1).f1) ((rd_T52 l1 1).f2) t232 _ A26.out).mono ?_
                  rintro e w30 ⟨rfl, hb⟩
                  refine ⟨_, rfl, ?_⟩
                  have n0_ := Aside0.mk (below_step (by repeat (first | (with_reducible first | exact HB.out | apply below_alloc | apply pw_below_drewN | apply below_drew1) | exact HB.out)) hb)
                  clear HB
                  have HB := n0_
                  clear n0_
                  (try clear hb)
                  (try clear hb2)
                  (try clear hk)
                  (try clear hi)
                  refine hK.out _ _ ⟨((HB.out.cell (World.block_lt_of_cell? w _ hw231_0)).trans hw231_0), ((HB.out.cell (World.block_lt_of_cell? w _ hw231_1)).trans hw231_1), ((HB.out.cell (World.block_lt_of_cell? w _ hw231_2)).trans hw231_2), ((HB.out.cell (World.block_lt_of_cell? w _ hw233_0)).trans hw233_0), ((HB.out.cell (World.block_lt_of_cell? w _ hw233_1)).trans hw233_1), ((HB.out.cell (World.block_lt_of_cell? w _ hw233_2)).trans hw233_2)⟩ (fun hHeld => ?_)
                  clear hK K
                  refine norm_ (a' := ?_) ?_ ?_
                  rotate_left
                  · show Act.put _ (some 62) _ = _
                    simp only [Act.put, List.setIfInBounds_toArray, List.set_cons_zero, List.set_cons_succ, i64_w, i32_w]
                    rfl
                  refine pure_ (i := 4) (N := some 63) (v := ?_) (a' := ?_) #[true, true, true, true, true, true, true, true, false, false, false, false, false, false, false] rfl rfl (any_of HT_.out (by kernel_rfl)) (fun _ _ _ h => h) (Or.inl ⟨by rfl, ?_⟩) ?_ ?_
                  rotate_left
                  · intro w'
                    go_simp
                    with_reducible rfl
                  rotate_left
                  · simp only [Act.put, List.setIfInBounds_toArray, List.set_cons_zero, List.set_cons_succ, i64_w, i32_w]
                    rfl
                  refine one_ (i := 8) (N := some 67) #[true, true, true, true, true, true, true, true, true, false, false, false, false, false, false] rfl rfl (one_of HT_.out (by kernel_rfl)) (by decide) (fun K hK => ?_)
                  refine goes_ Tryd.func72 (by kernel_rfl) rfl #[.agg #[.string ((rd_T52 l1 2).f0), .int .i32 ((rd_T52 l1 2).f1), .bool ((rd_T52 l1 2).f2)]] (by rfl) rfl rfl (by (try simp only [List.map_toArray, List.map_cons, List.map_nil]); first | done | rfl | (simp only [List.length_drop, List.length_take]; rfl)) ?_
                  with_reducible refine (spec_hexValue.calls kj12 ((rd_T52 l1 2).f0) ((rd_T52 l1 2).f1) ((rd_T52 l1 2).f2) t234 _ A28.out).mono ?_
                  rintro e w31 ⟨rfl, hb⟩
                  refine ⟨_, rfl, ?_⟩
                  have n0_ := Aside0.mk (below_step (by repeat (first | (with_reducible first | exact HB.out | apply below_alloc | apply pw_below_drewN | apply below_drew1) | exact HB.out)) hb)
                  clear HB
                  have HB := n0_
                  clear n0_
                  (try clear hb)
                  (try clear hb2)
                  (try clear hk)
                  (try clear hi)
                  refine hK.out _ _ ⟨((HB.out.cell (World.block_lt_of_cell? w _ hw231_0)).trans hw231_0), ((HB.out.cell (World.block_lt_of_cell? w _ hw231_1)).trans hw231_1), ((HB.out.cell (World.block_lt_of_cell? w _ hw231_2)).trans hw231_2), ((HB.out.cell (World.block_lt_of_cell? w _ hw233_0)).trans hw233_0), ((HB.out.cell (World.block_lt_of_cell? w _ hw233_1)).trans hw233_1), ((HB.out.cell (World.block_lt_of_cell? w _ hw233_2)).trans hw233_2)⟩ (fun hHeld => ?_)
                  clear hK K
                  refine norm_ (a' := ?_) ?_ ?_
                  rotate_left
                  · show Act.put _ (some 67) _ = _
                    simp only [Act.put, List.setIfInBounds_toArray, List.set_cons_zero, List.set_cons_succ, i64_w, i32_w]
                    rfl
                  refine pure_ (i := 9) (N := some 68) (v := ?_) (a' := ?_) #[true, true, true, true, true, true, true, true, true, true, false, false, false, false, false] rfl rfl (any_of HT_.out (by kernel_rfl)) (fun _ _ _ h => h) (Or.inl ⟨by rfl, ?_⟩) ?_ ?_
                  rotate_left
                  · intro w'
                    go_simp
                    with_reducible rfl
                  rotate_left
                  · simp only [Act.put, List.setIfInBounds_toArray, List.set_cons_zero, List.set_cons_succ, i64_w, i32_w]
                    rfl
                  refine pure_ (i := 10) (N := some 69) (v := ?_) (a' := ?_) #[true, true, true, true, true, true, true, true, true, true, true, false, false, false, false] rfl rfl (any_of HT_.out (by kernel_rfl)) (fun _ _ _ h => h) (Or.inl ⟨by rfl, ?_⟩) ?_ ?_
                  rotate_left
                  · intro w'
                    go_simp
                    with_reducible rfl
                  rotate_left
                  · simp only [Act.put, List.setIfInBounds_toArray, List.set_cons_zero, List.set_cons_succ, i64_w, i32_w]
                    rfl
                  refine one_ (i := 11) (N := some 70) #[true, true, true, true, true, true, true, true, true, true, true, true, false, false, false] rfl rfl (one_of HT_.out (by kernel_rfl)) (by decide) (fun K hK => ?_)
                  refine Kd.R_lit_step (Kd.int .u8) _ 5 ?hg (N := 70) ?hd (xs := ([(wrap64 ((wrap64 (16 * t232)) + t234)) % 256] : List Int)) (inner := [.int .u8 ((wrap64 ((wrap64 (16 * t232)) + t234)) % 256)]) (ok := fun _ => True) (okp := fun _ => True) ?hr ?hp (fun _ hk => hk) trivial (Below.refl _ _) (Nat.le_refl _) (by simp) ?_; (case hd => rfl); (case hg => rfl); (case hr => first | (go_simp; done) | (go_simp; rfl)); (case hp => exact (Reps.one (show Kd.M (Kd.int .u8) _ _ _ ((wrap64 ((wrap64 (16 * t232)) + t234)) % 256) [.int .u8 ((wrap64 ((wrap64 (16 * t232)) + t234)) % 256)] from rfl) (Reps.none _ _)))
                  intro v236 w32 ho33 hb hg_ hnew_
                  clear hg_ hnew_
                  (first | rw [← Ny235.out] at ho33 | (simp only [Int.reduceToNat] at ho33; rw [← Ny235.out] at ho33))
                  have n0_ := Aside0.mk (Kd.R_lower ho33 (below_size (by repeat (first | (with_reducible first | exact HB.out | apply below_alloc | apply pw_below_drewN | apply below_drew1) | exact HB.out))))
                  have n1_ := Aside0.mk (below_step (by repeat (first | (with_reducible first | exact HB.out | apply below_alloc | apply pw_below_drewN | apply below_drew1) | exact HB.out)) hb)
                  clear HB
                  have HO237 := n0_
                  have HB := n1_
                  clear n0_ n1_
                  clear hb ho33
                  refine hK.out _ _ ⟨((HB.out.cell (World.block_lt_of_cell? w _ hw231_0)).trans hw231_0), ((HB.out.cell (World.block_lt_of_cell? w _ hw231_1)).trans hw231_1), ((HB.out.cell (World.block_lt_of_cell? w _ hw231_2)).trans hw231_2), ((HB.out.cell (World.block_lt_of_cell? w _ hw233_0)).trans hw233_0), ((HB.out.cell (World.block_lt_of_cell? w _ hw233_1)).trans hw233_1), ((HB.out.cell (World.block_lt_of_cell? w _ hw233_2)).trans hw233_2)⟩ (fun hHeld => ?_)
                  clear hK K
                  refine norm_ (a' := ?_) ?_ ?_
                  rotate_left
                  · show Act.put _ (some 70) _ = _
                    simp only [Act.put, List.setIfInBounds_toArray, List.set_cons_zero, List.set_cons_succ, i64_w, i32_w]
                    rfl
                  refine one_ (i := 12) (N := some 71) #[true, true, true, true, true, true, true, true, true, true, true, true, true, false, false] rfl rfl (one_of HT_.out (by kernel_rfl)) (by decide) (fun K hK => ?_)
                  have hcv34 := own_string (P := Tryd.prog) Tryd.underlying23 Tryd.underlying5 Tryd.underlying9 (Kd.own_of_R HO237.out)
                  refine value_ (w1 := ?_) (v := ?_) (by rfl) rfl ?_ ?_
                  rotate_left 2
                  · go_simp
                    constructor
                    · rfl
                    · rfl
                  clear hcv34
                  refine hK.out _ _ ⟨((HB.out.cell (World.block_lt_of_cell? w _ hw231_0)).trans hw231_0), ((HB.out.cell (World.block_lt_of_cell? w _ hw231_1)).trans hw231_1), ((HB.out.cell (World.block_lt_of_cell? w _ hw231_2)).trans hw231_2), ((HB.out.cell (World.block_lt_of_cell? w _ hw233_0)).trans hw233_0), ((HB.out.cell (World.block_lt_of_cell? w _ hw233_1)).trans hw233_1), ((HB.out.cell (World.block_lt_of_cell? w _ hw233_2)).trans hw233_2)⟩ (fun hHeld => ?_)
                  clear hK K
                  refine norm_ (a' := ?_) ?_ ?_
                  rotate_left
                  · show Act.put _ (some 71) _ = _
                    simp only [Act.put, List.setIfInBounds_toArray, List.set_cons_zero, List.set_cons_succ, i64_w, i32_w]
                    rfl
                  refine pure_ (i := 13) (N := some 4) (v := ?_) (a' := ?_) #[true, true, true, true, true, true, true, true, true, true, true, true, true, true, false] rfl rfl (any_of HT_.out (by kernel_rfl)) (fun _ _ _ h => h) (Or.inl ⟨by rfl, ?_⟩) ?_ ?_
                  rotate_left
                  · intro w'
                    go_simp
                    with_reducible rfl
                  rotate_left
                  · simp only [Act.put, List.setIfInBounds_toArray, List.set_cons_zero, List.set_cons_succ, i64_w, i32_w]
                    rfl
                  refine pure_ (i := 14) (N := some 5) (v := ?_) (a' := ?_) #[true, true, true, true, true, true, true, true, true, true, true, true, true, true, true] rfl rfl (any_of HT_.out (by kernel_rfl)) (fun _ _ _ h => h) (Or.inl ⟨by rfl, ?_⟩) ?_ ?_
                  rotate_left
                  · intro w'
                    go_simp
                    with_reducible rfl
                  rotate_left
                  · simp only [Act.put, List.setIfInBounds_toArray, List.set_cons_zero, List.set_cons_succ, i64_w, i32_w]
                    rfl
                  refine done_ (done_of HT_.out (by kernel_rfl)) ?_
                  try go_wp2
                  go_ret2
                  exact ⟨by first | rfl | (simp [errW_none, errW_some] <;> rfl) | (simp [*, errW_none, errW_some] <;> rfl), by repeat (first | (with_reducible first | exact HB.out | apply below_alloc | apply pw_below_drewN | apply below_drew1) | exact HB.out)⟩
                · rw [if_neg c27] at H
                  exact absurd H (by simp)
              · rw [if_neg c25] at H
                exact absurd H (by simp)
            · replace c24 := Bool.eq_false_iff.mpr c24
              subst c24
              have H1 : (if 0 < (l1.length : Int) then (some ((rd_T52 l1 0).f0, 1)) else (none)) = some (r1, r2) := by rw [if_neg (show ¬ (false = true) by decide)] at H; exact H
              clear H
              have H := H1
              clear H1
              by_cases c35 : 0 < (l1.length : Int)
              · rw [if_pos c35] at H
                have c35b0 : decide (0 < (l1.length : Int)) = true := decide_eq_true c35
                have c35b1 : decide (0 < l1.length) = true := decide_eq_true (by omega)
                clear c35
                simp only [Option.some.injEq, Prod.mk.injEq] at H
                obtain ⟨rfl, rfl⟩ := H
                have p238 : 0 ≤ (0 : Int) := (by omega)
                have q238 : 0 < (l1.length : Int) := of_decide_eq_true (by first | (with_reducible assumption) | assumption)
                obtain ⟨ad238, e238, hx238_0, hx238_1, hx238_2⟩ := at_T52 HR1.out 0 p238 q238
                cases e238
                have qi238 : (0 < l1.length) = True := eq_true (by omega)
                (try rw [show ((0 : Int)).toNat = 0 from rfl] at hx238_0)
                (try rw [show 0 * 3 = 0 from rfl] at hx238_0)
                (try rw [Addr.add_zero'] at hx238_0)
                (try rw [show ((0 : Int)).toNat = 0 from rfl] at hx238_1)
                (try rw [show 0 * 3 = 0 from rfl] at hx238_1)
                (try rw [Addr.add_zero'] at hx238_1)
                (try rw [show ((0 : Int)).toNat = 0 from rfl] at hx238_2)
                (try rw [show 0 * 3 = 0 from rfl] at hx238_2)
                (try rw [Addr.add_zero'] at hx238_2)
                replace hx238_0 := (HB.out.cell (World.block_lt_of_cell? w _ hx238_0)).trans hx238_0
                replace hx238_1 := (HB.out.cell (World.block_lt_of_cell? w _ hx238_1)).trans hx238_1
                replace hx238_2 := (HB.out.cell (World.block_lt_of_cell? w _ hx238_2)).trans hx238_2
                replace p238 := eq_true p238
                replace q238 := eq_true q238
                go_wp2
                go_ret2
                exact ⟨by first | rfl | (simp [errW_none, errW_some] <;> rfl) | (simp [*, errW_none, errW_some] <;> rfl), by repeat (first | (with_reducible first | exact HB.out | apply below_alloc | apply pw_below_drewN | apply below_drew1) | exact HB.out)⟩
              · rw [if_neg c35] at H
                exact absurd H (by simp)
end Go.Proofs.YtonmnpmklkbioaaDoor.PN
/- spec.unquoted and the closure of spec.NameDecode, over characters. -/
namespace Go.Proofs.YtonmnpmklkbioaaDoor.Given
open Go.RowKit Go.Proofs.YtonmnpmklkbioaaDoorW.PrintWords Go.Proofs.YtonmnpmklkbioaaDoorW.PrintLast Go.Proofs.YtonmnpmklkbioaaDoorW.PrintMore Go.Proofs.YtonmnpmklkbioaaDoor.PN
open Go.Proofs.YtonmnpmklkbioaaDoor.Pt (Ch Tk flat chars sof Pr qt lsign unq hexv)
open Go.Proofs.YtonmnpmklkbioaaDoor.Sy (tl strB tl_size strB_tl tl_strB tkm tkm_ok hasB)
set_option linter.unusedVariables false
set_option linter.unusedSimpArgs false
def hexI (c : Ch) : Int := match hexv c with
  | some a => (a : Int)
  | none => -1
theorem hexv_g (r : Nat) : hexv (.g r) = if 48 ≤ r ∧ r ≤ 57 then some (r - 48) else if 97 ≤ r ∧ r ≤ 102 then some (r - 87) else if 65 ≤ r ∧ r ≤ 70 then some (r - 55) else none := rfl
theorem hexValue_is (k : Nat) (c : Ch) (h : ∀ r, c = .g r → r ≤ 1114111) : spec_hexValue.f (k + 3) (un c).f0 (un c).f1 (un c).f2 = some (hexI c) := by
  unfold spec_hexValue.f
  cases c with
  | b x => rfl
  | g r =>
    have hr := h r rfl
    show (if false = true then _ else if (48 : Int) ≤ (r : Int) then spec_hexValue.j0 (k + 3) (decide ((r : Int) ≤ 57)) _ (r : Int) false else spec_hexValue.j0 (k + 3) false _ (r : Int) false) = _
    rw [if_neg (by decide)]
    have w1 : ∀ z : Int, 0 ≤ z → z ≤ 1114111 → wrap32 z = z := fun z h1 h2 => by unfold wrap32; omega
    have w2 : ∀ z : Int, 0 ≤ z → z ≤ 1114111 → wrap64 z = z := fun z h1 h2 => by unfold wrap64; omega
    have j1 : ∀ T, ¬ (97 ≤ r ∧ r ≤ 102) → spec_hexValue.j1 (k + 1) false T (r : Int) false = some (if 65 ≤ r ∧ r ≤ 70 then (r : Int) - 55 else -1) := by
      intro T hn
      unfold spec_hexValue.j1
      try dsimp only
      rw [if_neg (by decide)]
      by_cases h1 : 65 ≤ r ∧ r ≤ 70
      · rw [if_pos (by omega), if_pos (by omega), if_pos h1, w1 _ (by omega) (by omega), w2 ((r : Int) - 65) (by omega) (by omega), w2 _ (by omega) (by omega)]
        congr 1
        omega
      · rw [if_neg h1]
        by_cases h2 : (65 : Int) ≤ (r : Int)
        · rw [if_pos h2, if_neg (by omega)]
        · rw [if_neg h2]
    have j0 : ∀ T, ¬ (48 ≤ r ∧ r ≤ 57) → spec_hexValue.j0 (k + 3) false T (r : Int) false = some (hexI (.g r)) := by
      intro T hn
      rw [show k + 3 = (k + 2) + 1 from rfl]
      unfold spec_hexValue.j0
      try dsimp only
      rw [if_neg (by decide)]
      unfold hexI
      rw [hexv_g, if_neg hn]
      by_cases h1 : 97 ≤ r ∧ r ≤ 102
      · rw [if_pos (by omega), if_pos h1, show decide ((r : Int) ≤ 102) = true by simp; omega, show k + 2 = (k + 1) + 1 from rfl]
        unfold spec_hexValue.j1
        try dsimp only
        rw [if_pos rfl, w1 _ (by omega) (by omega), w2 ((r : Int) - 97) (by omega) (by omega), w2 _ (by omega) (by omega)]
        try dsimp only
        congr 1
        omega
      · rw [if_neg h1]
        have hj : spec_hexValue.j1 (k + 2) false T (r : Int) false = some (if 65 ≤ r ∧ r ≤ 70 then (r : Int) - 55 else -1) := by
          have := j1 T h1
          exact spec_hexValue.mono_l (k + 1) |>.2 _ _ _ _ _ this
        have hres : (some (if 65 ≤ r ∧ r ≤ 70 then (r : Int) - 55 else -1) : Option Int) = some (match (if 65 ≤ r ∧ r ≤ 70 then some (r - 55) else none : Option Nat) with
            | some a => (a : Int)
            | none => -1) := by
          by_cases h2 : 65 ≤ r ∧ r ≤ 70
          · rw [if_pos h2, if_pos h2]
            congr 1
            show (r : Int) - 55 = ((r - 55 : Nat) : Int)
            omega
          · rw [if_neg h2, if_neg h2]
        by_cases h2 : (97 : Int) ≤ (r : Int)
        · rw [if_pos h2, show decide ((r : Int) ≤ 102) = false by simp; omega, hj, hres]
        · rw [if_neg h2, hj, hres]
    by_cases h1 : 48 ≤ r ∧ r ≤ 57
    · rw [if_pos (by omega), show decide ((r : Int) ≤ 57) = true by simp; omega, show k + 3 = (k + 2) + 1 from rfl]
      unfold spec_hexValue.j0
      try dsimp only
      rw [if_pos rfl, w1 _ (by omega) (by omega), w2 _ (by omega) (by omega)]
      unfold hexI
      rw [hexv_g, if_pos h1]
      dsimp only
      congr 1
      omega
    · by_cases h2 : (48 : Int) ≤ (r : Int)
      · rw [if_pos h2, show decide ((r : Int) ≤ 57) = false by simp; omega]
        exact j0 _ h1
      · rw [if_neg h2]
        exact j0 _ h1
theorem sgC_cases (d : Ch) : (sgC d = -1 ∧ ∀ P, lsign P d = none) ∨ ∃ a : Nat, sgC d = (a : Int) ∧ ∀ P : Nat → Bool, lsign P d = if P a = true then some a else none := by
  cases d with
  | b x => exact .inl ⟨rfl, fun P => rfl⟩
  | g r =>
    have hd : ∀ P, lsign P (.g r) = match sof r with
      | some c => if P c then some c else none
      | none => none := fun P => rfl
    have hs : sgC (.g r) = match sof r with
      | some a => (a : Int)
      | none => -1 := rfl
    cases h : sof r with
    | none => rw [h] at hs; exact .inl ⟨hs, fun P => by rw [hd, h]⟩
    | some a => rw [h] at hs; exact .inr ⟨a, hs, fun P => by rw [hd, h]⟩
theorem un_qt (d : Ch) : ((un d).f1 = 8219) = (d = qt) := by
  cases d with
  | g r =>
    apply propext
    show (r : Int) = 8219 ↔ Ch.g r = Ch.g 8219
    rw [Ch.g.injEq]
    omega
  | b x =>
    apply propext
    show (-1 : Int) = 8219 ↔ Ch.b x = Ch.g 8219
    constructor
    · intro h; omega
    · intro h; cases h
theorem un_f0 (d : Ch) : (un d).f0 = strB d.by := by cases d <;> rfl
theorem hexv_lt {d : Ch} {a : Nat} (h : hexv d = some a) : a < 16 := by
  cases d with
  | b x => cases h
  | g r => exact hexB_lt h
theorem str_hex (x y : Nat) (hx : x < 16) (hy : y < 16) : strOfNums ([(wrap64 ((wrap64 (16 * (x : Int))) + (y : Int))) % 256] : List Int) = strB [UInt8.ofNat (16 * x + y)] := by
  have h1 : wrap64 (16 * (x : Int)) = ((16 * x : Nat) : Int) := by unfold wrap64; omega
  have h2 : wrap64 (((16 * x : Nat) : Int) + (y : Int)) = ((16 * x + y : Nat) : Int) := by unfold wrap64; omega
  have h3 : (((16 * x + y : Nat) : Int)) % 256 = ((16 * x + y : Nat) : Int) := by omega
  rw [h1, h2, h3]
  rfl
theorem rd0 (L : List Ch) (c : Ch) : rd_T52 ((c :: L).map un) 0 = un c := rfl
theorem rd1 (L : List Ch) (c d : Ch) : rd_T52 ((c :: d :: L).map un) 1 = un d := rfl
theorem rd2 (L : List Ch) (c d e : Ch) : rd_T52 ((c :: d :: e :: L).map un) 2 = un e := rfl
theorem unq_j1 (k : Nat) (L : List Ch) : spec_unquoted.j1 (k + 1) ((qt :: L).map un) false = some (strB (qt : Ch).by, 1) := by
  unfold spec_unquoted.j1
  try dsimp only
  rw [if_neg (by decide), if_pos (by rw [List.length_map, List.length_cons]; omega), rd0, un_f0]
theorem good_le {L : List Ch} (hp : Pr L) {c : Ch} (hc : c ∈ L) : ∀ r, c = .g r → r ≤ 1114111 := by
  intro r hr
  have := pr_good hp c hc r hr
  unfold Pt.Good at this
  omega
theorem unq_f (m : Int) (L : List Ch) (hp : Pr L) : spec_unquoted.f 9 m ((qt :: L).map un) = some (strB (unq (tkm m) L).1.by, ((unq (tkm m) L).2 : Int)) := by
  have hbz : (Go.bits .and .u64 m 16777216 = 0) = (hasB m 16777216 = false) := hasB_ne m 16777216
  unfold spec_unquoted.f
  cases L with
  | nil =>
    rw [if_neg (by simp), show (9 : Nat) = 8 + 1 from rfl]
    unfold spec_unquoted.j0
    try dsimp only
    rw [if_neg (by decide)]
    have h1 : spec_unquoted.j1 8 (([qt] : List Ch).map un) false = some (strB (qt : Ch).by, 1) := unq_j1 7 []
    cases hb : hasB m 16777216 with
    | false => rw [if_pos (hbz ▸ hb), h1]; rfl
    | true => rw [if_neg (by rw [hbz, hb]; decide), if_neg (by simp), h1]; rfl
  | cons d L =>
    have hl1 : (((qt :: d :: L).map un).length : Int) > 1 := by simp; omega
    have hl2 : 1 < (((qt :: d :: L).map un).length : Int) := hl1
    have hdle := good_le hp (c := d) List.mem_cons_self
    have htrue : spec_unquoted.j0 9 m ((qt :: d :: L).map un) true = some (strB d.by, 2) := by
      rw [show (9 : Nat) = 8 + 1 from rfl]
      unfold spec_unquoted.j0
      try dsimp only
      rw [if_pos rfl, if_pos hl2, rd1, un_f0]
    have hfalse : ¬ (d = qt ∨ (lsign (tkm m).t d).isSome = true) → spec_unquoted.j0 9 m ((qt :: d :: L).map un) false = some (strB (unq (tkm m) (d :: L)).1.by, ((unq (tkm m) (d :: L)).2 : Int)) := by
      intro hn
      rw [show (9 : Nat) = 8 + 1 from rfl]
      unfold spec_unquoted.j0
      try dsimp only
      rw [if_neg (by decide)]
      have h1 : spec_unquoted.j1 8 ((qt :: d :: L).map un) false = some (strB (qt : Ch).by, 1) := unq_j1 7 (d :: L)
      have hu0 : (∀ a b, hexv d = some a → (L.head?.bind hexv) = some b → hasB m 16777216 = false) → unq (tkm m) (d :: L) = (qt, 1) := by
        intro h
        simp only [unq]
        rw [if_neg hn]
        cases L with
        | nil => rfl
        | cons e L =>
          show (match hexv d, hexv e with
            | some x, some y => if (tkm m).inv = true then (Ch.b (UInt8.ofNat (16 * x + y)), 3) else (qt, 1)
            | _, _ => (qt, 1)) = (qt, 1)
          cases ha : hexv d with
          | none => rfl
          | some a =>
            cases hb : hexv e with
            | none => rfl
            | some b =>
              have : (tkm m).inv = false := h a b ha hb
              dsimp only
              rw [this]
              rfl
      cases hb : hasB m 16777216 with
      | false => rw [if_pos (hbz ▸ hb), h1, hu0 (fun _ _ _ _ => hb)]; rfl
      | true =>
        rw [if_neg (by rw [hbz, hb]; decide)]
        cases L with
        | nil => rw [if_neg (by simp), h1, hu0 (fun _ _ _ h => by cases h)]; rfl
        | cons e L =>
          have hele := good_le hp (c := e) (by simp)
          rw [if_pos (by simp; omega), if_pos hl2, rd1, show (8 : Nat) = 5 + 3 from rfl, hexValue_is 5 d hdle]
          dsimp only [Option.bind_some]
          have hd' : hexI d = match hexv d with
            | some a => (a : Int)
            | none => -1 := rfl
          have he' : hexI e = match hexv e with
            | some a => (a : Int)
            | none => -1 := rfl
          cases ha : hexv d with
          | none =>
            rw [ha] at hd'
            rw [hd', if_neg (show ¬ (-1 : Int) ≥ 0 by decide)]
            rw [show (5 + 3 : Nat) = 8 from rfl, h1, hu0 (fun a b h _ => by rw [ha] at h; cases h)]
            rfl
          | some a =>
            rw [ha] at hd'
            rw [hd', if_pos (Int.natCast_nonneg a), if_pos (by simp; omega), rd2, hexValue_is 5 e hele]
            dsimp only [Option.bind_some]
            cases hb2 : hexv e with
            | none =>
              rw [hb2] at he'
              rw [he', show decide ((-1 : Int) ≥ 0) = false from rfl, show (5 + 3 : Nat) = 8 from rfl, h1, hu0 (fun a b _ h => by rw [show (e :: L).head?.bind hexv = hexv e from rfl, hb2] at h; cases h)]
              rfl
            | some b =>
              rw [hb2] at he'
              have hu : unq (tkm m) (d :: e :: L) = (Ch.b (UInt8.ofNat (16 * a + b)), 3) := by
                simp only [unq]
                rw [if_neg hn]
                show (match hexv d, hexv e with
                  | some x, some y => if (tkm m).inv = true then (Ch.b (UInt8.ofNat (16 * x + y)), 3) else (qt, 1)
                  | _, _ => (qt, 1)) = _
                rw [ha, hb2]
                dsimp only
                rw [if_pos (show (tkm m).inv = true from hb)]
              rw [he', show decide (((b : Nat) : Int) ≥ 0) = true by simp, show (5 + 3 : Nat) = 7 + 1 from rfl, hu]
              unfold spec_unquoted.j1
              try dsimp only
              rw [if_pos rfl, if_pos hl2, rd1, show (7 : Nat) = 4 + 3 from rfl, hexValue_is 4 d hdle, hd']
              dsimp only [Option.bind_some]
              rw [if_pos (by simp; omega), rd2, hexValue_is 4 e hele, he']
              dsimp only [Option.bind_some]
              rw [str_hex a b (hexv_lt ha) (hexv_lt hb2)]
              rfl
    rw [if_pos hl1, if_pos hl2, rd1]
    by_cases hq : d = qt
    · rw [if_pos ((un_qt d).symm ▸ hq), htrue]
      have hu : unq (tkm m) (d :: L) = (d, 2) := by
        simp only [unq]
        rw [if_pos (.inl hq)]
      rw [hu]
      rfl
    · rw [if_neg ((un_qt d).symm ▸ hq), signOf_un 7 hdle]
      dsimp only [Option.bind_some]
      rcases sgC_cases d with ⟨h1, h2⟩ | ⟨a, h1, h2⟩
      · rw [h1, if_neg (by decide), hfalse (by rintro (h | h); exact hq h; rw [h2] at h; cases h)]
      · rw [h1, if_pos (Int.natCast_nonneg a)]
        have ht : spec_Takes.f 9 m (a : Int) = some ((tkm m).t a) := takes_is m 6 a
        try dsimp only [Option.bind_some]
        rw [ht]
        dsimp only [Option.bind_some]
        have hls := h2 (tkm m).t
        cases hta : (tkm m).t a with
        | false =>
          rw [hta] at hls
          rw [hfalse (by rintro (h | h); exact hq h; rw [hls] at h; cases h)]
        | true =>
          rw [hta] at hls
          rw [htrue]
          have hu : unq (tkm m) (d :: L) = (d, 2) := by
            simp only [unq]
            rw [if_pos (.inr (by rw [hls]; rfl))]
          rw [hu]
          rfl
end Go.Proofs.YtonmnpmklkbioaaDoor.Given
/- The closure of spec.NameDecode. -/
namespace Go.Proofs.YtonmnpmklkbioaaDoor.Given
open Go.RowKit Go.Proofs.YtonmnpmklkbioaaDoorW.PrintWords Go.Proofs.YtonmnpmklkbioaaDoorW.PrintLast Go.Proofs.YtonmnpmklkbioaaDoorW.PrintMore Go.Proofs.YtonmnpmklkbioaaDoor.PN
open Go.Proofs.YtonmnpmklkbioaaDoor.Pt (Ch Tk flat chars sof Pr qt lsign unq hexv)
open Go.Proofs.YtonmnpmklkbioaaDoor.Sy (tl strB tl_size strB_tl tl_strB tkm tkm_ok hasB)
set_option linter.unusedVariables false
set_option linter.unusedSimpArgs false
set_option maxHeartbeats 1000000 in
theorem left51 {mp : Addr} {m : Int} {w : World} (hm : w.cell? mp = some (.int .u64 m)) {c : Ch} (hc : ∀ r, c = .g r → r ≤ 1114111) :
    Calls Tryd.prog 51 #[unV c, .pointer (some mp)] w fun e w' => e = .returned (.bool (lsign (tkm m).l c).isSome) ∧ Below w.heap.size w w' := by
  have hu52 := Tryd.underlying52
  have hcw : ∀ o, (w.alloc o).cell? mp = some (.int .u64 m) := fun o => ((below_alloc (Below.refl _ w) o).cell (p := mp) (World.block_lt_of_cell? w _ hm)).trans hm
  have hnew := World.new_ne w mp hm
  have hbw : ∀ os, Below w.heap.size w (w.alloc os) := fun os => (Below.refl _ w).alloc (Nat.le_refl _) _
  have cO := spec_SignOf.calls 2 (un c).f1 (sgC c)
  have hv := signOf_un 0 hc
  rw [Nat.zero_add] at hv
  unfold unV
  obtain ⟨T0, hT0⟩ : ∃ x, (un c).f0 = x := ⟨_, rfl⟩
  obtain ⟨C0, hC0⟩ : ∃ x, (un c).f1 = x := ⟨_, rfl⟩
  obtain ⟨Bd0, hBd0⟩ : ∃ x, (un c).f2 = x := ⟨_, rfl⟩
  rw [hC0] at cO hv
  rw [hT0, hC0, hBd0]
  clear hT0 hC0 hBd0
  rcases sgC_cases c with ⟨h1, h2⟩ | ⟨a, h1, h2⟩
  · rw [h2, Option.isSome_none]
    rw [h1] at cO hv
    clear h1 h2
    go_enter Tryd.func51, Tryd.ntmps51
    go_wp2
    refine wp_region_noPanic ?_
    refine wp_region_held_drew (S := (fun w' => w'.cell? ⟨w.heap.size, 1, none⟩ = some (.int .i32 C0) ∧ w'.cell? mp = some (.int .u64 m))) (by kernel_rfl) ?h101 (fun hHeld => ?k101)
    case h101 => ((try dsimp only); go_keep)
    refine wpAnyH_take (i := 0) (oi := { dst := some 4, op := Go.Op.fieldAddr 52 (Go.Operand.tmp 2) 1, type := 0, pos := "enc_name.go:105", after := #[], guard := none }) (v := ?v102) rfl (by kernel_rfl) (by kernel_rfl) (by kernel_rfl) (fun _ _ _ h => h) (Or.inl ⟨by rfl, ?y102⟩) (by assumption) ?r102
    case y102 => (intro w hSw; (try dsimp only at hSw); first | (go_simp; done) | (go_simp; with_reducible rfl))
    try simp only [Act.put, List.setIfInBounds_toArray, List.set_cons_zero, List.set_cons_succ]
    refine wpAnyH_take (i := 1) (oi := { dst := some 5, op := Go.Op.load 21 (Go.Operand.tmp 4), type := 21, pos := "enc_name.go:105", after := #[{ on := 0, ground := Go.Ground.data }], guard := none }) (v := ?v103) rfl (by kernel_rfl) (by kernel_rfl) (by kernel_rfl) (fun _ _ _ h => h) (Or.inl ⟨by rfl, ?y103⟩) (by assumption) ?r103
    case y103 => (intro w hSw; (try dsimp only at hSw); first | (go_simp; done) | (go_simp; with_reducible rfl))
    try simp only [Act.put, List.setIfInBounds_toArray, List.set_cons_zero, List.set_cons_succ]
    refine wpAnyH_ready (rs := [2]) (by kernel_rfl) (by simp) ?_
    refine AllReadyH.cons (o := { dst := some 6, op := Go.Op.call { callee := Go.Callee.value (Go.Operand.func 45), args := #[Go.Operand.tmp 5], argTypes := #[21] }, type := 21, pos := "enc_name.go:105", after := #[{ on := 1, ground := Go.Ground.data }], guard := none }) rfl (fun K hK => ?s104) ?m104
    case m104 => exact AllReadyH.nil
    go_simp; go_at_call 45; refine (cO _ hv).mono ?_; rintro e w1 ⟨rfl, ⟨n, rfl⟩⟩
    refine hK.out _ _ ?h104 (fun hHeld => ?k104)
    case h104 => ((try dsimp only); go_keep)
    clear hK K
    try simp only [Act.put, List.setIfInBounds_toArray, List.set_cons_zero, List.set_cons_succ]
    refine wpAnyH_take (i := 3) (oi := { dst := some 7, op := Go.Op.binOp Go.BinOp.geq 21 (Go.Operand.tmp 6) (Go.Operand.const (Go.Value.int Go.IntKind.i32 0)) 21, type := 4, pos := "enc_name.go:105", after := #[{ on := 2, ground := Go.Ground.data }], guard := none }) (v := ?v105) rfl (by kernel_rfl) (by kernel_rfl) (by kernel_rfl) (fun _ _ _ h => h) (Or.inl ⟨by rfl, ?y105⟩) (by assumption) ?r105
    case y105 => (intro w hSw; (try dsimp only at hSw); first | (go_simp; done) | (go_simp; with_reducible rfl))
    try simp only [Act.put, List.setIfInBounds_toArray, List.set_cons_zero, List.set_cons_succ]
    refine wpAnyH_take (i := 4) (oi := { dst := some 8, op := Go.Op.move (Go.Operand.tmp 7), type := 4, pos := "enc_name.go:105", after := #[{ on := 3, ground := Go.Ground.data }, { on := 2, ground := Go.Ground.chain }], guard := none }) (v := ?v106) rfl (by kernel_rfl) (by kernel_rfl) (by kernel_rfl) (fun _ _ _ h => h) (Or.inl ⟨by rfl, ?y106⟩) (by assumption) ?r106
    case y106 => (intro w hSw; (try dsimp only at hSw); first | (go_simp; done) | (go_simp; with_reducible rfl))
    try simp only [Act.put, List.setIfInBounds_toArray, List.set_cons_zero, List.set_cons_succ]
    refine wpAnyH_take (i := 5) (oi := { dst := some 9, op := Go.Op.load 22 (Go.Operand.tmp 1), type := 22, pos := "enc_name.go:105", after := #[{ on := 4, ground := Go.Ground.guard }], guard := some (4, true) }) (v := undef) rfl (by kernel_rfl) (by kernel_rfl) (by kernel_rfl) (fun _ _ _ h => h) (Or.inr ⟨by rfl, rfl⟩) (by assumption) ?r107
    try simp only [Act.put, List.setIfInBounds_toArray, List.set_cons_zero, List.set_cons_succ]
    refine wpAnyH_take (i := 6) (oi := { dst := some 10, op := Go.Op.fieldAddr 52 (Go.Operand.tmp 2) 1, type := 0, pos := "enc_name.go:105", after := #[{ on := 4, ground := Go.Ground.guard }], guard := some (4, true) }) (v := undef) rfl (by kernel_rfl) (by kernel_rfl) (by kernel_rfl) (fun _ _ _ h => h) (Or.inr ⟨by rfl, rfl⟩) (by assumption) ?r108
    try simp only [Act.put, List.setIfInBounds_toArray, List.set_cons_zero, List.set_cons_succ]
    refine wpAnyH_take (i := 7) (oi := { dst := some 11, op := Go.Op.load 21 (Go.Operand.tmp 10), type := 21, pos := "enc_name.go:105", after := #[{ on := 6, ground := Go.Ground.data }, { on := 4, ground := Go.Ground.guard }], guard := some (4, true) }) (v := undef) rfl (by kernel_rfl) (by kernel_rfl) (by kernel_rfl) (fun _ _ _ h => h) (Or.inr ⟨by rfl, rfl⟩) (by assumption) ?r109
    try simp only [Act.put, List.setIfInBounds_toArray, List.set_cons_zero, List.set_cons_succ]
    refine wpAnyH_take (i := 8) (oi := { dst := some 12, op := Go.Op.call { callee := Go.Callee.value (Go.Operand.func 45), args := #[Go.Operand.tmp 11], argTypes := #[21] }, type := 21, pos := "enc_name.go:105", after := #[{ on := 7, ground := Go.Ground.data }, { on := 4, ground := Go.Ground.chain }, { on := 4, ground := Go.Ground.guard }], guard := some (4, true) }) (v := undef) rfl (by kernel_rfl) (by kernel_rfl) (by kernel_rfl) (fun _ _ _ h => h) (Or.inr ⟨by rfl, rfl⟩) (by assumption) ?r110
    try simp only [Act.put, List.setIfInBounds_toArray, List.set_cons_zero, List.set_cons_succ]
    refine wpAnyH_take (i := 9) (oi := { dst := some 13, op := Go.Op.call { callee := Go.Callee.value (Go.Operand.func 40), args := #[Go.Operand.tmp 9, Go.Operand.tmp 12], argTypes := #[22, 21] }, type := 4, pos := "enc_name.go:105", after := #[{ on := 5, ground := Go.Ground.data }, { on := 8, ground := Go.Ground.data }, { on := 8, ground := Go.Ground.chain }, { on := 4, ground := Go.Ground.guard }], guard := some (4, true) }) (v := undef) rfl (by kernel_rfl) (by kernel_rfl) (by kernel_rfl) (fun _ _ _ h => h) (Or.inr ⟨by rfl, rfl⟩) (by assumption) ?r111
    try simp only [Act.put, List.setIfInBounds_toArray, List.set_cons_zero, List.set_cons_succ]
    refine wpAnyH_take (i := 10) (oi := { dst := some 14, op := Go.Op.pick (Go.Operand.tmp 8) (Go.Operand.tmp 13) (Go.Operand.const (Go.Value.bool false)), type := 4, pos := "enc_name.go:105", after := #[{ on := 4, ground := Go.Ground.data }, { on := 9, ground := Go.Ground.data }], guard := none }) (v := ?v112) rfl (by kernel_rfl) (by kernel_rfl) (by kernel_rfl) (fun _ _ _ h => h) (Or.inl ⟨by rfl, ?y112⟩) (by assumption) ?r112
    case y112 => (intro w hSw; (try dsimp only at hSw); first | (go_simp; done) | (go_simp; with_reducible rfl))
    try simp only [Act.put, List.setIfInBounds_toArray, List.set_cons_zero, List.set_cons_succ]
    refine wpAnyH_take (i := 11) (oi := { dst := some 3, op := Go.Op.assign (Go.Operand.tmp 14), type := 4, pos := "enc_name.go:105", after := #[{ on := 10, ground := Go.Ground.data }, { on := 9, ground := Go.Ground.chain }, { on := 0, ground := Go.Ground.phase }, { on := 1, ground := Go.Ground.phase }, { on := 2, ground := Go.Ground.phase }, { on := 3, ground := Go.Ground.phase }, { on := 4, ground := Go.Ground.phase }, { on := 5, ground := Go.Ground.phase }, { on := 6, ground := Go.Ground.phase }, { on := 7, ground := Go.Ground.phase }, { on := 8, ground := Go.Ground.phase }, { on := 9, ground := Go.Ground.phase }, { on := 10, ground := Go.Ground.phase }], guard := none }) (v := ?v113) rfl (by kernel_rfl) (by kernel_rfl) (by kernel_rfl) (fun _ _ _ h => h) (Or.inl ⟨by rfl, ?y113⟩) (by assumption) ?r113
    case y113 => (intro w hSw; (try dsimp only at hSw); first | (go_simp; done) | (go_simp; with_reducible rfl))
    try simp only [Act.put, List.setIfInBounds_toArray, List.set_cons_zero, List.set_cons_succ]
    refine wpAnyH_done (by kernel_rfl) ?_ _
    refine NoPanic.normal ?_
    go_wp2
    go_ret
    exact ⟨rfl, below_drewN' (below_drewN' (hbw _) 1) _⟩
  · have hls : (lsign (tkm m).l c).isSome = (tkm m).l a := by rw [h2]; cases (tkm m).l a <;> rfl
    rw [hls]
    rw [h1] at cO hv
    have ht := spec_TakesLeft.calls m (a : Int) ((tkm m).l a)
    have hw := takesLeft_is m a
    obtain ⟨v, hvv⟩ : ∃ v, (tkm m).l a = v := ⟨_, rfl⟩
    rw [hvv] at ht hw ⊢
    have ha : (0 : Int) ≤ (a : Int) := by omega
    clear h1 h2 hls hvv hc
    have hcd : ∀ o n, ((w.alloc o).drewN n).cell? mp = some (.int .u64 m) := fun o n => hcw o
    go_enter Tryd.func51, Tryd.ntmps51
    go_wp2
    go_region_held3 (fun w' => w'.cell? ⟨w.heap.size, 1, none⟩ = some (.int .i32 C0) ∧ w'.cell? mp = some (.int .u64 m)) (go_keep) (first | (go_at_call 45; refine (cO _ hv).mono ?_; rintro e w1 ⟨rfl, ⟨n, rfl⟩⟩) | (go_at_call 40; refine (ht _ hw).mono ?_; rintro e w1 ⟨rfl, ⟨n, rfl⟩⟩))
    all_goals go_wp2
    all_goals go_ret
    all_goals exact ⟨rfl, by with_reducible first | exact hbw _ | exact below_drewN' (hbw _) _ | exact below_drewN' (below_drewN' (hbw _) _) _ | exact below_drewN' (below_drewN' (below_drewN' (hbw _) _) _) _⟩
end Go.Proofs.YtonmnpmklkbioaaDoor.Given
