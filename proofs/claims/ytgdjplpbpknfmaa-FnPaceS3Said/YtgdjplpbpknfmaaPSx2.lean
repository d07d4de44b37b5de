-- Written by a program of this session.
import Derived.Test.YtgdjplpbpknfmaaPSx0
namespace Go.Proofs.Ytgdjplpbpknfmaa.PS
open Go.RowKit Go.Proofs.YtgdjplpbpknfmaaW.PrintWords Go.Proofs.YtgdjplpbpknfmaaW.PrintLast Go.Proofs.YtgdjplpbpknfmaaW.PrintMore Go.Proofs.Ytgdjplpbpknfmaa.Given
attribute [local go_sem] max2_int min2_int max_two min_two max_three min_three max_four min_four   -- for this text's walks alone
set_option linter.unusedVariables false
set_option linter.unusedSimpArgs false

/-! ### spec_PaceGiven: function 13 -/
mutual
def spec_PaceGiven.j0 : Nat → Int → Int → Int → Int → Option (Int × Int × Int × Int)
  | 0, _, _, _, _ => none
  | k + 1, x114000, x114001, x114002, x114003 => if x114001 < 0 then (spec_PaceGiven.j1 k x114000 2000000000 x114002 x114003) else (spec_PaceGiven.j1 k x114000 x114001 x114002 x114003)
def spec_PaceGiven.j1 : Nat → Int → Int → Int → Int → Option (Int × Int × Int × Int)
  | 0, _, _, _, _ => none
  | k + 1, x114000, x114001, x114002, x114003 => if x114002 < 0 then (if x114003 < 0 then (some (x114000, x114001, 2, 1)) else (some (x114000, x114001, 2, x114003))) else (if x114003 < 0 then (some (x114000, x114001, x114002, 1)) else (some (x114000, x114001, x114002, x114003)))
end
def spec_PaceGiven.f (k : Nat) (a0_0 : Int) (a0_1 : Int) (a0_2 : Int) (a0_3 : Int) (a1 : Bool) : Option (Int × Int × Int × Int) := if a0_0 < 0 then (if a1 = true then (spec_PaceGiven.j0 k 0 a0_1 a0_2 a0_3) else (spec_PaceGiven.j0 k 10000000 a0_1 a0_2 a0_3)) else (spec_PaceGiven.j0 k a0_0 a0_1 a0_2 a0_3)
theorem spec_PaceGiven.mono_l : ∀ k, (∀ y0 y1 y2 y3, LeO (spec_PaceGiven.j0 k y0 y1 y2 y3) (spec_PaceGiven.j0 (k + 1) y0 y1 y2 y3)) ∧ (∀ y0 y1 y2 y3, LeO (spec_PaceGiven.j1 k y0 y1 y2 y3) (spec_PaceGiven.j1 (k + 1) y0 y1 y2 y3))
  | 0 => ⟨fun _ _ _ _ r h => by simp [spec_PaceGiven.j0] at h, fun _ _ _ _ r h => by simp [spec_PaceGiven.j1] at h⟩
  | k + 1 => by
    obtain ⟨ih0, ih1⟩ := spec_PaceGiven.mono_l k
    refine ⟨?_, ?_⟩
    · intro y0 y1 y2 y3
      unfold spec_PaceGiven.j0
      repeat' first
      | (with_reducible exact ih0 _ _ _ _)
      | (with_reducible exact ih1 _ _ _ _)
      | (with_reducible exact LeO.refl _)
      | (with_reducible exact LeO.none _)
      | (with_reducible refine LeO.ite ?_ ?_)
      | (with_reducible refine LeO.bind ?_ (fun _ => ?_))
      | exact ih0 _ _ _ _
      | exact ih1 _ _ _ _
      | exact LeO.none _
      | refine LeO.ite ?_ ?_
      | refine LeO.bind ?_ (fun _ => ?_)
    · intro y0 y1 y2 y3
      unfold spec_PaceGiven.j1
      repeat' first
      | (with_reducible exact ih0 _ _ _ _)
      | (with_reducible exact ih1 _ _ _ _)
      | (with_reducible exact LeO.refl _)
      | (with_reducible exact LeO.none _)
      | (with_reducible refine LeO.ite ?_ ?_)
      | (with_reducible refine LeO.bind ?_ (fun _ => ?_))
      | exact ih0 _ _ _ _
      | exact ih1 _ _ _ _
      | exact LeO.none _
      | refine LeO.ite ?_ ?_
      | refine LeO.bind ?_ (fun _ => ?_)
theorem spec_PaceGiven.mono : ∀ a0 a1 a2 a3 a4 k, LeO (spec_PaceGiven.f k a0 a1 a2 a3 a4) (spec_PaceGiven.f (k + 1) a0 a1 a2 a3 a4) := by
  intro a0 a1 a2 a3 a4 k
  obtain ⟨ih0, ih1⟩ := spec_PaceGiven.mono_l k
  unfold spec_PaceGiven.f
  repeat' first
      | (with_reducible exact ih0 _ _ _ _)
      | (with_reducible exact ih1 _ _ _ _)
      | (with_reducible exact LeO.refl _)
      | (with_reducible exact LeO.none _)
      | (with_reducible refine LeO.ite ?_ ?_)
      | (with_reducible refine LeO.bind ?_ (fun _ => ?_))
      | exact ih0 _ _ _ _
      | exact ih1 _ _ _ _
      | exact LeO.none _
      | refine LeO.ite ?_ ?_
      | refine LeO.bind ?_ (fun _ => ?_)
set_option maxHeartbeats 8000000 in
set_option maxRecDepth 100000 in
theorem spec_PaceGiven.calls (k : Nat) (a0_0 : Int) (a0_1 : Int) (a0_2 : Int) (a0_3 : Int) (a1 : Bool) (r1 : Int) (r2 : Int) (r3 : Int) (r4 : Int) (w : World) (h : spec_PaceGiven.f k a0_0 a0_1 a0_2 a0_3 a1 = some (r1, r2, r3, r4)) :
    Calls Try.prog 13 #[.agg #[.int .i64 a0_0, .int .i64 a0_1, .int .i64 a0_2, .int .i64 a0_3], .bool a1] w fun e w' => e = .returned (.agg #[.int .i64 r1, .int .i64 r2, .int .i64 r3, .int .i64 r4]) ∧ Below w.heap.size w w' := by
  have hu26 := Try.underlying26
  have HB := Aside0.mk (Below.refl w.heap.size w)
  have H : (if a0_0 < 0 then (if a1 = true then (spec_PaceGiven.j0 k 0 a0_1 a0_2 a0_3) else (spec_PaceGiven.j0 k 10000000 a0_1 a0_2 a0_3)) else (spec_PaceGiven.j0 k a0_0 a0_1 a0_2 a0_3)) = some (r1, r2, r3, r4) := h
  clear h
  have HC3 := Aside0.mk H
  clear H
  go_enter Try.func13, Try.ntmps13
  go_upto_if 7 with (first | ((with_reducible refine gate_dst (N := 2) rfl ?_); refine box_event ?hg (N := 2) ?hd (cs := #[.int .i64 a0_0, .int .i64 a0_1, .int .i64 a0_2, .int .i64 a0_3]) (t := 26) ?hr ?_; (case hd => rfl); (case hg => rfl); (case hr => first | (go_simp; done) | (go_simp; rfl)); intro gb113 hg w4 hbox hb; have n0_ := Aside0.mk (below_step (by repeat (first | (with_reducible first | exact HB.out | apply below_alloc | apply pw_below_drewN | apply below_drew1) | exact HB.out)) hb); have n1_ := Aside0.mk (hbox); have n2_ := Aside0.mk ((by rw [hg]; exact (below_size (by repeat (first | (with_reducible first | exact HB.out | apply below_alloc | apply pw_below_drewN | apply below_drew1) | exact HB.out))) : w.heap.size ≤ gb113)); have n3_ := Aside0.mk ((by rw [hg]; exact (below_size (by repeat (first | (with_reducible first | exact HB.out | apply below_alloc | apply pw_below_drewN | apply below_drew1) | exact HB.out))) : w.heap.size ≤ gb113)); clear HB; have HB := n0_; have BK113 := n1_; have GW113 := n2_; have GE113 := n3_; clear n0_ n1_ n2_ n3_; clear hb hbox hg) | ((with_reducible refine gate_dst (N := 4) rfl ?_); refine box_event ?hg (N := 4) ?hd (cs := #[.int .i64 0, .int .i64 0, .int .i64 0, .int .i64 0]) (t := 26) ?hr ?_; (case hd => rfl); (case hg => rfl); (case hr => first | (go_simp; done) | (go_simp; rfl)); intro gb114 hg w5 hbox hb; have n0_ := Aside0.mk (blk_below (g := gb113) (o := .cells #[.int .i64 a0_0, .int .i64 a0_1, .int .i64 a0_2, .int .i64 a0_3] 26 (0, 0)) (by (with_reducible repeat (first | refine blk_drewN ?_ _ | refine blk_drew ?_ | refine blk_alloc ?_ _)); exact BK113.out) hb); have n1_ := Aside0.mk (below_step (by repeat (first | (with_reducible first | exact HB.out | apply below_alloc | apply pw_below_drewN | apply below_drew1 | refine below_set ?_ GE113.out) | exact HB.out)) hb); have n2_ := Aside0.mk (hbox); have n3_ := Aside0.mk ((by rw [hg]; exact (below_size (by repeat (first | (with_reducible first | exact HB.out | apply below_alloc | apply pw_below_drewN | apply below_drew1 | refine below_set ?_ GE113.out) | exact HB.out))) : w.heap.size ≤ gb114)); have n4_ := Aside0.mk ((by rw [hg]; exact (below_size (by repeat (first | (with_reducible first | exact HB.out | apply below_alloc | apply pw_below_drewN | apply below_drew1 | refine below_set ?_ GE113.out) | exact HB.out))) : w.heap.size ≤ gb114)); have n5_ := Aside0.mk ((by rw [hg]; exact Nat.ne_of_lt (blk_lt (g := gb113) (o := .cells #[.int .i64 a0_0, .int .i64 a0_1, .int .i64 a0_2, .int .i64 a0_3] 26 (0, 0)) (by (with_reducible repeat (first | refine blk_drewN ?_ _ | refine blk_drew ?_ | refine blk_alloc ?_ _)); exact BK113.out)) : gb113 ≠ gb114)); have n6_ := Aside0.mk ((by rw [hg]; exact Nat.ne_of_gt (blk_lt (g := gb113) (o := .cells #[.int .i64 a0_0, .int .i64 a0_1, .int .i64 a0_2, .int .i64 a0_3] 26 (0, 0)) (by (with_reducible repeat (first | refine blk_drewN ?_ _ | refine blk_drew ?_ | refine blk_alloc ?_ _)); exact BK113.out)) : gb114 ≠ gb113)); clear BK113; clear HB; have BK113 := n0_; have HB := n1_; have BK114 := n2_; have GW114 := n3_; have GE114 := n4_; have NB113_114 := n5_; have NB114_113 := n6_; clear n0_ n1_ n2_ n3_ n4_ n5_ n6_; clear hb hbox hg; have hnb6 := NB113_114.out; have hnc6 := NB114_113.out; have hcz7_0 : w5.cell? ⟨gb113, 0, none⟩ = some (.int .i64 a0_0) := (blk_cell BK113.out 0).trans rfl; have hcz7_1 : w5.cell? ⟨gb113, 1, none⟩ = some (.int .i64 a0_1) := (blk_cell BK113.out 1).trans rfl; have hcz7_2 : w5.cell? ⟨gb113, 2, none⟩ = some (.int .i64 a0_2) := (blk_cell BK113.out 2).trans rfl; have hcz7_3 : w5.cell? ⟨gb113, 3, none⟩ = some (.int .i64 a0_3) := (blk_cell BK113.out 3).trans rfl; have hfz7_0 := blk_frozen BK113.out 0; have hfz7_1 := blk_frozen BK113.out 1; have hfz7_2 := blk_frozen BK113.out 2; have hfz7_3 := blk_frozen BK113.out 3))
  (try simp only [Act.put, List.setIfInBounds_toArray, List.set_cons_zero, List.set_cons_succ])
  go_cut [] (fun wc => ∃ (kq : Nat) (x114000_2 : Int), Aside0 (spec_PaceGiven.j0 kq x114000_2 a0_1 a0_2 a0_3 = some (r1, r2, r3, r4)) ∧ Aside0 (kq ≤ k) ∧ Aside0 (wc.heap[gb113]? = some (.cells #[.int .i64 x114000_2, .int .i64 a0_1, .int .i64 a0_2, .int .i64 a0_3] 26 (0, 0))) ∧ Aside0 (wc.heap[gb114]? = some (.cells #[.int .i64 0, .int .i64 0, .int .i64 0, .int .i64 0] 26 (0, 0))) ∧ Aside0 (Below w.heap.size w wc))
  case first =>
    have H := HC3.out
    clear HC3
    by_cases c8 : a0_0 < 0
    · rw [if_pos c8] at H
      have c8b0 : decide (a0_0 < 0) = true := decide_eq_true c8
      clear c8
      (first | rw [c8b0] | (simp only [i64_w, i32_w]; rw [c8b0]) | skip)
      by_cases c9 : a1 = true
      · subst c9
        have H1 : (spec_PaceGiven.j0 k 0 a0_1 a0_2 a0_3) = some (r1, r2, r3, r4) := by rw [if_pos rfl] at H; exact H
        clear H
        have H := H1
        clear H1
        have H' := Aside0.mk H
        clear H
        have hnb10 := NB113_114.out
        have hnc10 := NB114_113.out
        have hcz11_0 : w5.cell? ⟨gb113, 0, none⟩ = some (.int .i64 a0_0) := (blk_cell BK113.out 0).trans rfl
        have hcz11_1 : w5.cell? ⟨gb113, 1, none⟩ = some (.int .i64 a0_1) := (blk_cell BK113.out 1).trans rfl
        have hcz11_2 : w5.cell? ⟨gb113, 2, none⟩ = some (.int .i64 a0_2) := (blk_cell BK113.out 2).trans rfl
        have hcz11_3 : w5.cell? ⟨gb113, 3, none⟩ = some (.int .i64 a0_3) := (blk_cell BK113.out 3).trans rfl
        have hfz11_0 := blk_frozen BK113.out 0
        have hfz11_1 := blk_frozen BK113.out 1
        have hfz11_2 := blk_frozen BK113.out 2
        have hfz11_3 := blk_frozen BK113.out 3
        go_wp2
        go_meet
        case rel => exact ⟨_, (0), H', ⟨by first | omega | exact Nat.le_refl _⟩, ⟨by (with_reducible repeat (first | refine blk_drewN ?_ _ | refine blk_drew ?_ | refine blk_alloc ?_ _)); refine blk_put (cs := #[.int .i64 10000000, .int .i64 a0_1, .int .i64 a0_2, .int .i64 a0_3]) ?_ 0 _ rfl; (with_reducible repeat (first | refine blk_drewN ?_ _ | refine blk_drew ?_ | refine blk_alloc ?_ _)); refine blk_put (cs := #[.int .i64 a0_0, .int .i64 a0_1, .int .i64 a0_2, .int .i64 a0_3]) ?_ 0 _ rfl; (with_reducible repeat (first | refine blk_drewN ?_ _ | refine blk_drew ?_ | refine blk_alloc ?_ _)); exact BK113.out⟩, ⟨by (with_reducible repeat (first | refine blk_drewN ?_ _ | refine blk_drew ?_ | refine blk_alloc ?_ _)); refine blk_far ?_ NB114_113.out _; (with_reducible repeat (first | refine blk_drewN ?_ _ | refine blk_drew ?_ | refine blk_alloc ?_ _)); refine blk_far ?_ NB114_113.out _; (with_reducible repeat (first | refine blk_drewN ?_ _ | refine blk_drew ?_ | refine blk_alloc ?_ _)); exact BK114.out⟩, ⟨by repeat (first | (with_reducible first | exact HB.out | apply below_alloc | apply pw_below_drewN | apply below_drew1 | refine below_set ?_ GE113.out | refine below_set ?_ GE114.out) | exact HB.out)⟩⟩
      · replace c9 := Bool.eq_false_iff.mpr c9
        subst c9
        have H1 : (spec_PaceGiven.j0 k 10000000 a0_1 a0_2 a0_3) = some (r1, r2, r3, r4) := by rw [if_neg (show ¬ (false = true) by decide)] at H; exact H
        clear H
        have H := H1
        clear H1
        have H' := Aside0.mk H
        clear H
        have hnb12 := NB113_114.out
        have hnc12 := NB114_113.out
        have hcz13_0 : w5.cell? ⟨gb113, 0, none⟩ = some (.int .i64 a0_0) := (blk_cell BK113.out 0).trans rfl
        have hcz13_1 : w5.cell? ⟨gb113, 1, none⟩ = some (.int .i64 a0_1) := (blk_cell BK113.out 1).trans rfl
        have hcz13_2 : w5.cell? ⟨gb113, 2, none⟩ = some (.int .i64 a0_2) := (blk_cell BK113.out 2).trans rfl
        have hcz13_3 : w5.cell? ⟨gb113, 3, none⟩ = some (.int .i64 a0_3) := (blk_cell BK113.out 3).trans rfl
        have hfz13_0 := blk_frozen BK113.out 0
        have hfz13_1 := blk_frozen BK113.out 1
        have hfz13_2 := blk_frozen BK113.out 2
        have hfz13_3 := blk_frozen BK113.out 3
        go_wp2
        go_meet
        case rel => exact ⟨_, (10000000), H', ⟨by first | omega | exact Nat.le_refl _⟩, ⟨by (with_reducible repeat (first | refine blk_drewN ?_ _ | refine blk_drew ?_ | refine blk_alloc ?_ _)); refine blk_put (cs := #[.int .i64 a0_0, .int .i64 a0_1, .int .i64 a0_2, .int .i64 a0_3]) ?_ 0 _ rfl; (with_reducible repeat (first | refine blk_drewN ?_ _ | refine blk_drew ?_ | refine blk_alloc ?_ _)); exact BK113.out⟩, ⟨by (with_reducible repeat (first | refine blk_drewN ?_ _ | refine blk_drew ?_ | refine blk_alloc ?_ _)); refine blk_far ?_ NB114_113.out _; (with_reducible repeat (first | refine blk_drewN ?_ _ | refine blk_drew ?_ | refine blk_alloc ?_ _)); exact BK114.out⟩, ⟨by repeat (first | (with_reducible first | exact HB.out | apply below_alloc | apply pw_below_drewN | apply below_drew1 | refine below_set ?_ GE113.out | refine below_set ?_ GE114.out) | exact HB.out)⟩⟩
    · rw [if_neg c8] at H
      have c8b0 : decide (a0_0 < 0) = false := decide_eq_false c8
      clear c8
      (first | rw [c8b0] | (simp only [i64_w, i32_w]; rw [c8b0]) | skip)
      have H' := Aside0.mk H
      clear H
      go_wp2
      go_meet
      case rel => exact ⟨_, (a0_0), H', ⟨by first | omega | exact Nat.le_refl _⟩, ⟨by (with_reducible repeat (first | refine blk_drewN ?_ _ | refine blk_drew ?_ | refine blk_alloc ?_ _)); exact BK113.out⟩, ⟨by (with_reducible repeat (first | refine blk_drewN ?_ _ | refine blk_drew ?_ | refine blk_alloc ?_ _)); exact BK114.out⟩, ⟨by repeat (first | (with_reducible first | exact HB.out | apply below_alloc | apply pw_below_drewN | apply below_drew1 | refine below_set ?_ GE113.out | refine below_set ?_ GE114.out) | exact HB.out)⟩⟩
  case rest =>
    clear HC3
    try clear c1
    try clear p2
    try clear c6
    try clear c8
    try clear c8b0
    try clear c9
    try clear c10
    try clear c12
    try clear c13
    try clear hcz11_0
    try clear hcz11_1
    try clear hcz11_2
    try clear hcz11_3
    try clear hcz13_0
    try clear hcz13_1
    try clear hcz13_2
    try clear hcz13_3
    try clear hcz7_0
    try clear hcz7_1
    try clear hcz7_2
    try clear hcz7_3
    try clear hfz11_0
    try clear hfz11_1
    try clear hfz11_2
    try clear hfz11_3
    try clear hfz13_0
    try clear hfz13_1
    try clear hfz13_2
    try clear hfz13_3
    try clear hfz7_0
    try clear hfz7_1
    try clear hfz7_2
    try clear hfz7_3
    obtain ⟨kq, x114000_2, HA, HJ2, BK113, BK114, HB⟩ := hcut
    cases kq with
    | zero => exact absurd HA.out (by simp [spec_PaceGiven.j0])
    | succ kj2 =>
      have H := HA.out
      clear HA
      simp only [spec_PaceGiven.j0] at H
      have HC14 := Aside0.mk H
      clear H
      have hnb15 := NB113_114.out
      have hnc15 := NB114_113.out
      have hcz16_0 : wc.cell? ⟨gb113, 0, none⟩ = some (.int .i64 x114000_2) := (blk_cell BK113.out 0).trans rfl
      have hcz16_1 : wc.cell? ⟨gb113, 1, none⟩ = some (.int .i64 a0_1) := (blk_cell BK113.out 1).trans rfl
      have hcz16_2 : wc.cell? ⟨gb113, 2, none⟩ = some (.int .i64 a0_2) := (blk_cell BK113.out 2).trans rfl
      have hcz16_3 : wc.cell? ⟨gb113, 3, none⟩ = some (.int .i64 a0_3) := (blk_cell BK113.out 3).trans rfl
      have hfz16_0 := blk_frozen BK113.out 0
      have hfz16_1 := blk_frozen BK113.out 1
      have hfz16_2 := blk_frozen BK113.out 2
      have hfz16_3 := blk_frozen BK113.out 3
      go_upto_if 13 with (fail)
      go_cut [] (fun wc => ∃ (kq : Nat) (x114001_13 : Int), Aside0 (spec_PaceGiven.j1 kq x114000_2 x114001_13 a0_2 a0_3 = some (r1, r2, r3, r4)) ∧ Aside0 (kq ≤ kj2) ∧ Aside0 (wc.heap[gb113]? = some (.cells #[.int .i64 x114000_2, .int .i64 x114001_13, .int .i64 a0_2, .int .i64 a0_3] 26 (0, 0))) ∧ Aside0 (wc.heap[gb114]? = some (.cells #[.int .i64 0, .int .i64 0, .int .i64 0, .int .i64 0] 26 (0, 0))) ∧ Aside0 (Below w.heap.size w wc))
      case first =>
        have H := HC14.out
        clear HC14
        by_cases c17 : a0_1 < 0
        · rw [if_pos c17] at H
          have c17b0 : decide (a0_1 < 0) = true := decide_eq_true c17
          clear c17
          (first | rw [c17b0] | (simp only [i64_w, i32_w]; rw [c17b0]) | skip)
          have H' := Aside0.mk H
          clear H
          have hnb18 := NB113_114.out
          have hnc18 := NB114_113.out
          have hcz19_0 : wc.cell? ⟨gb113, 0, none⟩ = some (.int .i64 x114000_2) := (blk_cell BK113.out 0).trans rfl
          have hcz19_1 : wc.cell? ⟨gb113, 1, none⟩ = some (.int .i64 a0_1) := (blk_cell BK113.out 1).trans rfl
          have hcz19_2 : wc.cell? ⟨gb113, 2, none⟩ = some (.int .i64 a0_2) := (blk_cell BK113.out 2).trans rfl
          have hcz19_3 : wc.cell? ⟨gb113, 3, none⟩ = some (.int .i64 a0_3) := (blk_cell BK113.out 3).trans rfl
          have hfz19_0 := blk_frozen BK113.out 0
          have hfz19_1 := blk_frozen BK113.out 1
          have hfz19_2 := blk_frozen BK113.out 2
          have hfz19_3 := blk_frozen BK113.out 3
          go_wp2
          go_meet
          case rel => exact ⟨_, (2000000000), H', ⟨by have := HJ2.out; first | omega | exact Nat.le_refl _⟩, ⟨by (with_reducible repeat (first | refine blk_drewN ?_ _ | refine blk_drew ?_ | refine blk_alloc ?_ _)); refine blk_put (cs := #[.int .i64 x114000_2, .int .i64 a0_1, .int .i64 a0_2, .int .i64 a0_3]) ?_ 1 _ rfl; (with_reducible repeat (first | refine blk_drewN ?_ _ | refine blk_drew ?_ | refine blk_alloc ?_ _)); exact BK113.out⟩, ⟨by (with_reducible repeat (first | refine blk_drewN ?_ _ | refine blk_drew ?_ | refine blk_alloc ?_ _)); refine blk_far ?_ NB114_113.out _; (with_reducible repeat (first | refine blk_drewN ?_ _ | refine blk_drew ?_ | refine blk_alloc ?_ _)); exact BK114.out⟩, ⟨by repeat (first | (with_reducible first | exact HB.out | apply below_alloc | apply pw_below_drewN | apply below_drew1 | refine below_set ?_ GE113.out | refine below_set ?_ GE114.out) | exact HB.out)⟩⟩
        · rw [if_neg c17] at H
          have c17b0 : decide (a0_1 < 0) = false := decide_eq_false c17
          clear c17
          (first | rw [c17b0] | (simp only [i64_w, i32_w]; rw [c17b0]) | skip)
          have H' := Aside0.mk H
          clear H
          go_wp2
          go_meet
          case rel => exact ⟨_, (a0_1), H', ⟨by have := HJ2.out; first | omega | exact Nat.le_refl _⟩, ⟨by (with_reducible repeat (first | refine blk_drewN ?_ _ | refine blk_drew ?_ | refine blk_alloc ?_ _)); exact BK113.out⟩, ⟨by (with_reducible repeat (first | refine blk_drewN ?_ _ | refine blk_drew ?_ | refine blk_alloc ?_ _)); exact BK114.out⟩, ⟨by repeat (first | (with_reducible first | exact HB.out | apply below_alloc | apply pw_below_drewN | apply below_drew1 | refine below_set ?_ GE113.out | refine below_set ?_ GE114.out) | exact HB.out)⟩⟩
      case rest =>
        clear HC14
        try clear c1
        try clear p2
        try clear c6
        try clear c8
        try clear c8b0
        try clear c9
        try clear c10
        try clear c12
        try clear c13
        try clear c15
        try clear c17
        try clear c17b0
        try clear c18
        try clear hcz11_0
        try clear hcz11_1
        try clear hcz11_2
        try clear hcz11_3
        try clear hcz13_0
        try clear hcz13_1
        try clear hcz13_2
        try clear hcz13_3
        try clear hcz16_0
        try clear hcz16_1
        try clear hcz16_2
        try clear hcz16_3
        try clear hcz19_0
        try clear hcz19_1
        try clear hcz19_2
        try clear hcz19_3
        try clear hcz7_0
        try clear hcz7_1
        try clear hcz7_2
        try clear hcz7_3
        try clear hfz11_0
        try clear hfz11_1
        try clear hfz11_2
        try clear hfz11_3
        try clear hfz13_0
        try clear hfz13_1
        try clear hfz13_2
        try clear hfz13_3
        try clear hfz16_0
        try clear hfz16_1
        try clear hfz16_2
        try clear hfz16_3
        try clear hfz19_0
        try clear hfz19_1
        try clear hfz19_2
        try clear hfz19_3
        try clear hfz7_0
        try clear hfz7_1
        try clear hfz7_2
        try clear hfz7_3
        try clear p2
        obtain ⟨kq, x114001_13, HA, HJ13, BK113, BK114, HB⟩ := hcut
        cases kq with
        | zero => exact absurd HA.out (by simp [spec_PaceGiven.j1])
        | succ kj13 =>
          have H := HA.out
          clear HA
          simp only [spec_PaceGiven.j1] at H
          by_cases c20 : a0_2 < 0
          · rw [if_pos c20] at H
            have c20b0 : decide (a0_2 < 0) = true := decide_eq_true c20
            clear c20
            by_cases c21 : a0_3 < 0
            · rw [if_pos c21] at H
              have c21b0 : decide (a0_3 < 0) = true := decide_eq_true c21
              clear c21
              simp only [Option.some.injEq, Prod.mk.injEq] at H
              obtain ⟨rfl, rfl, rfl, rfl⟩ := H
              have hnb22 := NB113_114.out
              have hnc22 := NB114_113.out
              have hcz23_0 : wc.cell? ⟨gb113, 0, none⟩ = some (.int .i64 x114000_2) := (blk_cell BK113.out 0).trans rfl
              have hcz23_1 : wc.cell? ⟨gb113, 1, none⟩ = some (.int .i64 x114001_13) := (blk_cell BK113.out 1).trans rfl
              have hcz23_2 : wc.cell? ⟨gb113, 2, none⟩ = some (.int .i64 a0_2) := (blk_cell BK113.out 2).trans rfl
              have hcz23_3 : wc.cell? ⟨gb113, 3, none⟩ = some (.int .i64 a0_3) := (blk_cell BK113.out 3).trans rfl
              have hfz23_0 := blk_frozen BK113.out 0
              have hfz23_1 := blk_frozen BK113.out 1
              have hfz23_2 := blk_frozen BK113.out 2
              have hfz23_3 := blk_frozen BK113.out 3
              have hcz24_0 : wc.cell? ⟨gb114, 0, none⟩ = some (.int .i64 0) := (blk_cell BK114.out 0).trans rfl
              have hcz24_1 : wc.cell? ⟨gb114, 1, none⟩ = some (.int .i64 0) := (blk_cell BK114.out 1).trans rfl
              have hcz24_2 : wc.cell? ⟨gb114, 2, none⟩ = some (.int .i64 0) := (blk_cell BK114.out 2).trans rfl
              have hcz24_3 : wc.cell? ⟨gb114, 3, none⟩ = some (.int .i64 0) := (blk_cell BK114.out 3).trans rfl
              have hfz24_0 := blk_frozen BK114.out 0
              have hfz24_1 := blk_frozen BK114.out 1
              have hfz24_2 := blk_frozen BK114.out 2
              have hfz24_3 := blk_frozen BK114.out 3
              go_wp2
              refine bodyPost_ret (results_cell_row rfl _ _ gb114 26 #[.int .i64 x114000_2, .int .i64 x114001_13, .int .i64 2, .int .i64 1] (0, 0) _ rfl (by (with_reducible repeat (first | refine blk_drewN ?_ _ | refine blk_drew ?_ | refine blk_alloc ?_ _)); refine blk_put (cs := #[.int .i64 x114000_2, .int .i64 x114001_13, .int .i64 2, .int .i64 0]) ?_ 3 _ rfl; (with_reducible repeat (first | refine blk_drewN ?_ _ | refine blk_drew ?_ | refine blk_alloc ?_ _)); refine blk_put (cs := #[.int .i64 x114000_2, .int .i64 x114001_13, .int .i64 0, .int .i64 0]) ?_ 2 _ rfl; (with_reducible repeat (first | refine blk_drewN ?_ _ | refine blk_drew ?_ | refine blk_alloc ?_ _)); refine blk_put (cs := #[.int .i64 x114000_2, .int .i64 0, .int .i64 0, .int .i64 0]) ?_ 1 _ rfl; (with_reducible repeat (first | refine blk_drewN ?_ _ | refine blk_drew ?_ | refine blk_alloc ?_ _)); refine blk_put (cs := #[.int .i64 0, .int .i64 0, .int .i64 0, .int .i64 0]) ?_ 0 _ rfl; (with_reducible repeat (first | refine blk_drewN ?_ _ | refine blk_drew ?_ | refine blk_alloc ?_ _)); refine blk_far ?_ NB114_113.out _; (with_reducible repeat (first | refine blk_drewN ?_ _ | refine blk_drew ?_ | refine blk_alloc ?_ _)); refine blk_far ?_ NB114_113.out _; (with_reducible repeat (first | refine blk_drewN ?_ _ | refine blk_drew ?_ | refine blk_alloc ?_ _)); exact BK114.out) Try.underlying26 rfl (by kernel_rfl)) rfl ?_
              exact ⟨by first | rfl | (simp [errW_none, errW_some] <;> rfl) | (simp [*, errW_none, errW_some] <;> rfl), by repeat (first | (with_reducible first | exact HB.out | apply below_alloc | apply pw_below_drewN | apply below_drew1 | refine below_set ?_ GE113.out | refine below_set ?_ GE114.out) | exact HB.out)⟩
            · rw [if_neg c21] at H
              have c21b0 : decide (a0_3 < 0) = false := decide_eq_false c21
              clear c21
              simp only [Option.some.injEq, Prod.mk.injEq] at H
              obtain ⟨rfl, rfl, rfl, rfl⟩ := H
              have hnb25 := NB113_114.out
              have hnc25 := NB114_113.out
              have hcz26_0 : wc.cell? ⟨gb113, 0, none⟩ = some (.int .i64 x114000_2) := (blk_cell BK113.out 0).trans rfl
              have hcz26_1 : wc.cell? ⟨gb113, 1, none⟩ = some (.int .i64 x114001_13) := (blk_cell BK113.out 1).trans rfl
              have hcz26_2 : wc.cell? ⟨gb113, 2, none⟩ = some (.int .i64 a0_2) := (blk_cell BK113.out 2).trans rfl
              have hcz26_3 : wc.cell? ⟨gb113, 3, none⟩ = some (.int .i64 a0_3) := (blk_cell BK113.out 3).trans rfl
              have hfz26_0 := blk_frozen BK113.out 0
              have hfz26_1 := blk_frozen BK113.out 1
              have hfz26_2 := blk_frozen BK113.out 2
              have hfz26_3 := blk_frozen BK113.out 3
              have hcz27_0 : wc.cell? ⟨gb114, 0, none⟩ = some (.int .i64 0) := (blk_cell BK114.out 0).trans rfl
              have hcz27_1 : wc.cell? ⟨gb114, 1, none⟩ = some (.int .i64 0) := (blk_cell BK114.out 1).trans rfl
              have hcz27_2 : wc.cell? ⟨gb114, 2, none⟩ = some (.int .i64 0) := (blk_cell BK114.out 2).trans rfl
              have hcz27_3 : wc.cell? ⟨gb114, 3, none⟩ = some (.int .i64 0) := (blk_cell BK114.out 3).trans rfl
              have hfz27_0 := blk_frozen BK114.out 0
              have hfz27_1 := blk_frozen BK114.out 1
              have hfz27_2 := blk_frozen BK114.out 2
              have hfz27_3 := blk_frozen BK114.out 3
              go_wp2
              refine bodyPost_ret (results_cell_row rfl _ _ gb114 26 #[.int .i64 x114000_2, .int .i64 x114001_13, .int .i64 2, .int .i64 a0_3] (0, 0) _ rfl (by (with_reducible repeat (first | refine blk_drewN ?_ _ | refine blk_drew ?_ | refine blk_alloc ?_ _)); refine blk_put (cs := #[.int .i64 x114000_2, .int .i64 x114001_13, .int .i64 2, .int .i64 0]) ?_ 3 _ rfl; (with_reducible repeat (first | refine blk_drewN ?_ _ | refine blk_drew ?_ | refine blk_alloc ?_ _)); refine blk_put (cs := #[.int .i64 x114000_2, .int .i64 x114001_13, .int .i64 0, .int .i64 0]) ?_ 2 _ rfl; (with_reducible repeat (first | refine blk_drewN ?_ _ | refine blk_drew ?_ | refine blk_alloc ?_ _)); refine blk_put (cs := #[.int .i64 x114000_2, .int .i64 0, .int .i64 0, .int .i64 0]) ?_ 1 _ rfl; (with_reducible repeat (first | refine blk_drewN ?_ _ | refine blk_drew ?_ | refine blk_alloc ?_ _)); refine blk_put (cs := #[.int .i64 0, .int .i64 0, .int .i64 0, .int .i64 0]) ?_ 0 _ rfl; (with_reducible repeat (first | refine blk_drewN ?_ _ | refine blk_drew ?_ | refine blk_alloc ?_ _)); refine blk_far ?_ NB114_113.out _; (with_reducible repeat (first | refine blk_drewN ?_ _ | refine blk_drew ?_ | refine blk_alloc ?_ _)); exact BK114.out) Try.underlying26 rfl (by kernel_rfl)) rfl ?_
              exact ⟨by first | rfl | (simp [errW_none, errW_some] <;> rfl) | (simp [*, errW_none, errW_some] <;> rfl), by repeat (first | (with_reducible first | exact HB.out | apply below_alloc | apply pw_below_drewN | apply below_drew1 | refine below_set ?_ GE113.out | refine below_set ?_ GE114.out) | exact HB.out)⟩
          · rw [if_neg c20] at H
            have c20b0 : decide (a0_2 < 0) = false := decide_eq_false c20
            clear c20
            by_cases c28 : a0_3 < 0
            · rw [if_pos c28] at H
              have c28b0 : decide (a0_3 < 0) = true := decide_eq_true c28
              clear c28
              simp only [Option.some.injEq, Prod.mk.injEq] at H
              obtain ⟨rfl, rfl, rfl, rfl⟩ := H
              have hnb29 := NB113_114.out
              have hnc29 := NB114_113.out
              have hcz30_0 : wc.cell? ⟨gb113, 0, none⟩ = some (.int .i64 x114000_2) := (blk_cell BK113.out 0).trans rfl
              have hcz30_1 : wc.cell? ⟨gb113, 1, none⟩ = some (.int .i64 x114001_13) := (blk_cell BK113.out 1).trans rfl
              have hcz30_2 : wc.cell? ⟨gb113, 2, none⟩ = some (.int .i64 a0_2) := (blk_cell BK113.out 2).trans rfl
              have hcz30_3 : wc.cell? ⟨gb113, 3, none⟩ = some (.int .i64 a0_3) := (blk_cell BK113.out 3).trans rfl
              have hfz30_0 := blk_frozen BK113.out 0
              have hfz30_1 := blk_frozen BK113.out 1
              have hfz30_2 := blk_frozen BK113.out 2
              have hfz30_3 := blk_frozen BK113.out 3
              have hcz31_0 : wc.cell? ⟨gb114, 0, none⟩ = some (.int .i64 0) := (blk_cell BK114.out 0).trans rfl
              have hcz31_1 : wc.cell? ⟨gb114, 1, none⟩ = some (.int .i64 0) := (blk_cell BK114.out 1).trans rfl
              have hcz31_2 : wc.cell? ⟨gb114, 2, none⟩ = some (.int .i64 0) := (blk_cell BK114.out 2).trans rfl
              have hcz31_3 : wc.cell? ⟨gb114, 3, none⟩ = some (.int .i64 0) := (blk_cell BK114.out 3).trans rfl
              have hfz31_0 := blk_frozen BK114.out 0
              have hfz31_1 := blk_frozen BK114.out 1
              have hfz31_2 := blk_frozen BK114.out 2
              have hfz31_3 := blk_frozen BK114.out 3
              go_wp2
              refine bodyPost_ret (results_cell_row rfl _ _ gb114 26 #[.int .i64 x114000_2, .int .i64 x114001_13, .int .i64 a0_2, .int .i64 1] (0, 0) _ rfl (by (with_reducible repeat (first | refine blk_drewN ?_ _ | refine blk_drew ?_ | refine blk_alloc ?_ _)); refine blk_put (cs := #[.int .i64 x114000_2, .int .i64 x114001_13, .int .i64 a0_2, .int .i64 0]) ?_ 3 _ rfl; (with_reducible repeat (first | refine blk_drewN ?_ _ | refine blk_drew ?_ | refine blk_alloc ?_ _)); refine blk_put (cs := #[.int .i64 x114000_2, .int .i64 x114001_13, .int .i64 0, .int .i64 0]) ?_ 2 _ rfl; (with_reducible repeat (first | refine blk_drewN ?_ _ | refine blk_drew ?_ | refine blk_alloc ?_ _)); refine blk_put (cs := #[.int .i64 x114000_2, .int .i64 0, .int .i64 0, .int .i64 0]) ?_ 1 _ rfl; (with_reducible repeat (first | refine blk_drewN ?_ _ | refine blk_drew ?_ | refine blk_alloc ?_ _)); refine blk_put (cs := #[.int .i64 0, .int .i64 0, .int .i64 0, .int .i64 0]) ?_ 0 _ rfl; (with_reducible repeat (first | refine blk_drewN ?_ _ | refine blk_drew ?_ | refine blk_alloc ?_ _)); refine blk_far ?_ NB114_113.out _; (with_reducible repeat (first | refine blk_drewN ?_ _ | refine blk_drew ?_ | refine blk_alloc ?_ _)); exact BK114.out) Try.underlying26 rfl (by kernel_rfl)) rfl ?_
              exact ⟨by first | rfl | (simp [errW_none, errW_some] <;> rfl) | (simp [*, errW_none, errW_some] <;> rfl), by repeat (first | (with_reducible first | exact HB.out | apply below_alloc | apply pw_below_drewN | apply below_drew1 | refine below_set ?_ GE113.out | refine below_set ?_ GE114.out) | exact HB.out)⟩
            · rw [if_neg c28] at H
              have c28b0 : decide (a0_3 < 0) = false := decide_eq_false c28
              clear c28
              simp only [Option.some.injEq, Prod.mk.injEq] at H
              obtain ⟨rfl, rfl, rfl, rfl⟩ := H
              have hnb32 := NB113_114.out
              have hnc32 := NB114_113.out
              have hcz33_0 : wc.cell? ⟨gb113, 0, none⟩ = some (.int .i64 x114000_2) := (blk_cell BK113.out 0).trans rfl
              have hcz33_1 : wc.cell? ⟨gb113, 1, none⟩ = some (.int .i64 x114001_13) := (blk_cell BK113.out 1).trans rfl
              have hcz33_2 : wc.cell? ⟨gb113, 2, none⟩ = some (.int .i64 a0_2) := (blk_cell BK113.out 2).trans rfl
              have hcz33_3 : wc.cell? ⟨gb113, 3, none⟩ = some (.int .i64 a0_3) := (blk_cell BK113.out 3).trans rfl
              have hfz33_0 := blk_frozen BK113.out 0
              have hfz33_1 := blk_frozen BK113.out 1
              have hfz33_2 := blk_frozen BK113.out 2
              have hfz33_3 := blk_frozen BK113.out 3
              have hcz34_0 : wc.cell? ⟨gb114, 0, none⟩ = some (.int .i64 0) := (blk_cell BK114.out 0).trans rfl
              have hcz34_1 : wc.cell? ⟨gb114, 1, none⟩ = some (.int .i64 0) := (blk_cell BK114.out 1).trans rfl
              have hcz34_2 : wc.cell? ⟨gb114, 2, none⟩ = some (.int .i64 0) := (blk_cell BK114.out 2).trans rfl
              have hcz34_3 : wc.cell? ⟨gb114, 3, none⟩ = some (.int .i64 0) := (blk_cell BK114.out 3).trans rfl
              have hfz34_0 := blk_frozen BK114.out 0
              have hfz34_1 := blk_frozen BK114.out 1
              have hfz34_2 := blk_frozen BK114.out 2
              have hfz34_3 := blk_frozen BK114.out 3
              go_wp2
              refine bodyPost_ret (results_cell_row rfl _ _ gb114 26 #[.int .i64 x114000_2, .int .i64 x114001_13, .int .i64 a0_2, .int .i64 a0_3] (0, 0) _ rfl (by (with_reducible repeat (first | refine blk_drewN ?_ _ | refine blk_drew ?_ | refine blk_alloc ?_ _)); refine blk_put (cs := #[.int .i64 x114000_2, .int .i64 x114001_13, .int .i64 a0_2, .int .i64 0]) ?_ 3 _ rfl; (with_reducible repeat (first | refine blk_drewN ?_ _ | refine blk_drew ?_ | refine blk_alloc ?_ _)); refine blk_put (cs := #[.int .i64 x114000_2, .int .i64 x114001_13, .int .i64 0, .int .i64 0]) ?_ 2 _ rfl; (with_reducible repeat (first | refine blk_drewN ?_ _ | refine blk_drew ?_ | refine blk_alloc ?_ _)); refine blk_put (cs := #[.int .i64 x114000_2, .int .i64 0, .int .i64 0, .int .i64 0]) ?_ 1 _ rfl; (with_reducible repeat (first | refine blk_drewN ?_ _ | refine blk_drew ?_ | refine blk_alloc ?_ _)); refine blk_put (cs := #[.int .i64 0, .int .i64 0, .int .i64 0, .int .i64 0]) ?_ 0 _ rfl; (with_reducible repeat (first | refine blk_drewN ?_ _ | refine blk_drew ?_ | refine blk_alloc ?_ _)); exact BK114.out) Try.underlying26 rfl (by kernel_rfl)) rfl ?_
              exact ⟨by first | rfl | (simp [errW_none, errW_some] <;> rfl) | (simp [*, errW_none, errW_some] <;> rfl), by repeat (first | (with_reducible first | exact HB.out | apply below_alloc | apply pw_below_drewN | apply below_drew1 | refine below_set ?_ GE113.out | refine below_set ?_ GE114.out) | exact HB.out)⟩

end Go.Proofs.Ytgdjplpbpknfmaa.PS
