-- Written by a program of this session. -- slim
import Derived.Test.YtmkhkkfliecfdaaPTx20
import Derived.Test.YtmkhkkfliecfdaaPTx29
import Derived.Test.YtmkhkkfliecfdaaPTx30
import Derived.Test.YtmkhkkfliecfdaaPTx31
namespace Go.Proofs.Ytmkhkkfliecfdaa.PT
open Go.RowKit Go.Proofs.YtmkhkkfliecfdaaW.PrintWords Go.Proofs.YtmkhkkfliecfdaaW.PrintLast Go.Proofs.Ytmkhkkfliecfdaa.Given Go.Proofs.Ytmkhkkfliecfdaa.Mm
attribute [local go_sem] mx_go mn_go
set_option linter.unusedVariables false
set_option linter.unusedSimpArgs false

attribute [local go_sem high] idx70
attribute [local go_sem high] eqA24
/-! ### laws_FnRangeBoth: function 5 -/
mutual
def laws_FnRangeBoth.j0 : Nat → Bool → Int → Int → Int → Int → Option (Bool)
 | 0, _, _, _, _, _ => none
 | k + 1, x26, x317000, x317001, x318000, x318001 => if x26 = true then (some true) else ((impl_RangeBoth.f x317000 x317001 x318000 x318001).bind fun bt320 => ((impl_RangeBoth.f x318000 x318001 x317000 x317001).bind fun bt322 => ((laws_rangeAwake.f k).bind fun t326 => (if t326 = true then ((impl_RangeEnd.f x317000 x317001).bind fun t327 => (if t327 = (wrap64 (x317000 + x317001)) then ((impl_RangeEmpty.f x317000 x317001).bind fun t328 => (laws_FnRangeBoth.j1 k (mx x317000 x318000) (mn (wrap64 (x317000 + x317001)) (wrap64 (x318000 + x318001))) t328 bt320.1 bt320.2 bt322.1 bt322.2)) else (laws_FnRangeBoth.j1 k (mx x317000 x318000) (mn (wrap64 (x317000 + x317001)) (wrap64 (x318000 + x318001))) true bt320.1 bt320.2 bt322.1 bt322.2))) else (laws_FnRangeBoth.j1 k (mx x317000 x318000) (mn (wrap64 (x317000 + x317001)) (wrap64 (x318000 + x318001))) true bt320.1 bt320.2 bt322.1 bt322.2)))))
def laws_FnRangeBoth.j1 : Nat → Int → Int → Bool → Int → Int → Int → Int → Option (Bool)
 | 0, _, _, _, _, _, _, _ => none
 | k + 1, x5, x6, x64, x325000, x325001, x326000, x326001 => if x64 = true then (some false) else (if x5 ≥ x6 then ((impl_RangeEmpty.f x325000 x325001).bind fun t329 => (if t329 = true then (if (x325000 == x326000 && (x325001 == x326001)) = true then (some (x325000 == 0 && (x325001 == 0))) else (some false)) else (some false))) else (if (x325000 == x5 && (x325001 == (wrap64 (x6 - x5)))) = true then (if (x325000 == x326000 && (x325001 == x326001)) = true then ((impl_RangeEmpty.f x325000 x325001).bind fun t330 => (if t330 = true then (some false) else ((impl_RangeEnd.f x325000 x325001).bind fun t331 => (some (t331 == x6))))) else (some false)) else (some false)))
end
def laws_FnRangeBoth.f (k : Nat) (a0_0 : Int) (a0_1 : Int) (a1_0 : Int) (a1_1 : Int) : Option (Bool) := (spec_RangeIn.f a0_0 a0_1).bind fun t318 => (if t318 = true then ((spec_RangeIn.f a1_0 a1_1).bind fun t319 => (if t319 = true then (if a0_1 < 1 then (laws_FnRangeBoth.j0 k true a0_0 a0_1 a1_0 a1_1) else (laws_FnRangeBoth.j0 k (decide (a1_1 < 1)) a0_0 a0_1 a1_0 a1_1)) else (laws_FnRangeBoth.j0 k true a0_0 a0_1 a1_0 a1_1))) else (laws_FnRangeBoth.j0 k true a0_0 a0_1 a1_0 a1_1))
theorem laws_FnRangeBoth.mono_l : ∀ k, (∀ y0 y1 y2 y3 y4, LeO (laws_FnRangeBoth.j0 k y0 y1 y2 y3 y4) (laws_FnRangeBoth.j0 (k + 1) y0 y1 y2 y3 y4)) ∧ (∀ y0 y1 y2 y3 y4 y5 y6, LeO (laws_FnRangeBoth.j1 k y0 y1 y2 y3 y4 y5 y6) (laws_FnRangeBoth.j1 (k + 1) y0 y1 y2 y3 y4 y5 y6))
 | 0 => ⟨fun _ _ _ _ _ r h => by simp [laws_FnRangeBoth.j0] at h, fun _ _ _ _ _ _ _ r h => by simp [laws_FnRangeBoth.j1] at h⟩
 | k + 1 => by
  obtain ⟨ih0, ih1⟩ := laws_FnRangeBoth.mono_l k
  refine ⟨?_, ?_⟩
  ·intro y0 y1 y2 y3 y4
   unfold laws_FnRangeBoth.j0
   repeat' first
   | (with_reducible exact ih0 _ _ _ _ _)
   | (with_reducible exact ih1 _ _ _ _ _ _ _)
   | (with_reducible exact laws_rangeAwake.mono _)
   | (with_reducible exact LeO.refl _)
   | (with_reducible exact LeO.none _)
   | (with_reducible refine LeO.ite ?_ ?_)
   | (with_reducible refine LeO.bind ?_ (fun _ => ?_))
   | exact ih0 _ _ _ _ _
   | exact ih1 _ _ _ _ _ _ _
   | exact laws_rangeAwake.mono _
   | exact LeO.none _
   | refine LeO.ite ?_ ?_
   | refine LeO.bind ?_ (fun _ => ?_)
  ·intro y0 y1 y2 y3 y4 y5 y6
   unfold laws_FnRangeBoth.j1
   repeat' first
   | (with_reducible exact ih0 _ _ _ _ _)
   | (with_reducible exact ih1 _ _ _ _ _ _ _)
   | (with_reducible exact laws_rangeAwake.mono _)
   | (with_reducible exact LeO.refl _)
   | (with_reducible exact LeO.none _)
   | (with_reducible refine LeO.ite ?_ ?_)
   | (with_reducible refine LeO.bind ?_ (fun _ => ?_))
   | exact ih0 _ _ _ _ _
   | exact ih1 _ _ _ _ _ _ _
   | exact laws_rangeAwake.mono _
   | exact LeO.none _
   | refine LeO.ite ?_ ?_
   | refine LeO.bind ?_ (fun _ => ?_)
theorem laws_FnRangeBoth.mono : ∀ a0 a1 a2 a3 k, LeO (laws_FnRangeBoth.f k a0 a1 a2 a3) (laws_FnRangeBoth.f (k + 1) a0 a1 a2 a3) := by
 intro a0 a1 a2 a3 k
 obtain ⟨ih0, ih1⟩ := laws_FnRangeBoth.mono_l k
 unfold laws_FnRangeBoth.f
 repeat' first
   | (with_reducible exact ih0 _ _ _ _ _)
   | (with_reducible exact ih1 _ _ _ _ _ _ _)
   | (with_reducible exact laws_rangeAwake.mono _)
   | (with_reducible exact LeO.refl _)
   | (with_reducible exact LeO.none _)
   | (with_reducible refine LeO.ite ?_ ?_)
   | (with_reducible refine LeO.bind ?_ (fun _ => ?_))
   | exact ih0 _ _ _ _ _
   | exact ih1 _ _ _ _ _ _ _
   | exact laws_rangeAwake.mono _
   | exact LeO.none _
   | refine LeO.ite ?_ ?_
   | refine LeO.bind ?_ (fun _ => ?_)
def laws_FnRangeBoth.T3 : Bool × List (List Nat × List Nat) := (true, [([], []), ([0], [0]), ([], []), ([2], [2]), ([1, 3], [1, 3]), ([], []), ([5], [5]), ([], []), ([7], [7]), ([6, 8], [6, 8]), ([], []), ([10], [10]), ([], []), ([12], [12]), ([11, 13], [11, 13]), ([9, 14], [9, 14]), ([4, 0, 1, 2, 3, 4], [4]), ([15, 16, 0, 1, 2, 3, 4, 5, 6, 7, 8, 9, 10, 11, 12, 13, 14, 15, 16], [15])])
def laws_FnRangeBoth.B3 : List Nat := [0, 1, 0, 4, 15, 0, 32, 0, 128, 480, 0, 1024, 0, 4096, 15360, 32736, 31, 131071]
theorem laws_FnRangeBoth.tab3 : rtab .any (opsOf Try.f5 3) = laws_FnRangeBoth.T3 := by kernel_rfl
theorem laws_FnRangeBoth.bits3 : waitsOk laws_FnRangeBoth.T3.2 laws_FnRangeBoth.B3 = true := by kernel_rfl
def laws_FnRangeBoth.T4 : Bool × List (List Nat × List Nat) := (true, [([], []), ([], []), ([0, 1], [0, 1]), ([], []), ([], []), ([3, 4, 2], [3, 4]), ([], []), ([], []), ([6, 2, 5, 0, 1, 2, 6, 7], [2, 6]), ([7, 5, 8, 0, 1, 2, 3, 4, 5, 6, 7, 8], [5, 7])])
def laws_FnRangeBoth.B4 : List Nat := [0, 0, 3, 0, 0, 31, 0, 0, 255, 511]
theorem laws_FnRangeBoth.tab4 : rtab .any (opsOf Try.f5 4) = laws_FnRangeBoth.T4 := by kernel_rfl
theorem laws_FnRangeBoth.bits4 : waitsOk laws_FnRangeBoth.T4.2 laws_FnRangeBoth.B4 = true := by kernel_rfl
def laws_FnRangeBoth.T5 : Bool × List (List Nat × List Nat) := (true, [([], []), ([0], [0]), ([1, 0], [1]), ([2], [2]), ([3, 2, 2], [2, 3]), ([2], [2]), ([5, 2], [2, 5]), ([2], [2]), ([7, 2], [2, 7]), ([6, 8, 2], [2, 6, 8]), ([4, 9, 2], [2, 4, 9]), ([2, 10], [2, 10]), ([11, 4], [11]), ([12], [12]), ([13, 12, 12], [12, 13]), ([12, 14], [12, 14])])
def laws_FnRangeBoth.B5 : List Nat := [0, 1, 3, 7, 15, 7, 39, 7, 135, 487, 1023, 2047, 4095, 8191, 16383, 32767]
theorem laws_FnRangeBoth.tab5 : rtab .any (opsOf Try.f5 5) = laws_FnRangeBoth.T5 := by kernel_rfl
theorem laws_FnRangeBoth.bits5 : waitsOk laws_FnRangeBoth.T5.2 laws_FnRangeBoth.B5 = true := by kernel_rfl
set_option maxHeartbeats 8000000 in
set_option maxRecDepth 100000 in
theorem laws_FnRangeBoth.calls (k : Nat) (a0_0 : Int) (a0_1 : Int) (a1_0 : Int) (a1_1 : Int) (r : Bool) (w : World) (h : laws_FnRangeBoth.f k a0_0 a0_1 a1_0 a1_1 = some r) :
  Calls Try.prog 5 #[.agg #[.int .i64 a0_0, .int .i64 a0_1], .agg #[.int .i64 a1_0, .int .i64 a1_1]] w fun e w' => e = .returned (.bool r) ∧ Below w.heap.size w w' := by
 have hu24 := Try.underlying24
 have HB := Aside0.mk (Below.refl w.heap.size w)
 have H : ((spec_RangeIn.f a0_0 a0_1).bind fun t318 => (if t318 = true then ((spec_RangeIn.f a1_0 a1_1).bind fun t319 => (if t319 = true then (if a0_1 < 1 then (laws_FnRangeBoth.j0 k true a0_0 a0_1 a1_0 a1_1) else (laws_FnRangeBoth.j0 k (decide (a1_1 < 1)) a0_0 a0_1 a1_0 a1_1)) else (laws_FnRangeBoth.j0 k true a0_0 a0_1 a1_0 a1_1))) else (laws_FnRangeBoth.j0 k true a0_0 a0_1 a1_0 a1_1))) = some r := h
 clear h
 have HC3 := Aside0.mk H
 clear H
 go_enter Try.func5, Try.ntmps5
 go_upto_region 1 with (first | ((with_reducible refine gate_dst (N := 2) rfl ?_); refine box_event ?hg (N := 2) ?hd (cs := #[.int .i64 a0_0, .int .i64 a0_1]) (t := 24) ?hr ?_; (case hd => rfl); (case hg => rfl); (case hr => first | (go_simp; done) | (go_simp; rfl)); intro gb316 hg w4 hbox hb; have n0_ := Aside0.mk (below_step (by repeat (first | (with_reducible first | exact HB.out | apply below_alloc | apply pw_below_drewN | apply below_drew1) | exact HB.out)) hb); have n1_ := Aside0.mk (hbox); have n2_ := Aside0.mk ((by rw [hg]; exact (below_size (by repeat (first | (with_reducible first | exact HB.out | apply below_alloc | apply pw_below_drewN | apply below_drew1) | exact HB.out))) : w.heap.size ≤ gb316)); have n3_ := Aside0.mk ((by rw [hg]; exact (below_size (by repeat (first | (with_reducible first | exact HB.out | apply below_alloc | apply pw_below_drewN | apply below_drew1) | exact HB.out))) : w.heap.size ≤ gb316)); clear HB; have HB := n0_; have BK316 := n1_; have GW316 := n2_; have GE316 := n3_; clear n0_ n1_ n2_ n3_; clear hb hbox hg) | ((with_reducible refine gate_dst (N := 3) rfl ?_); refine box_event ?hg (N := 3) ?hd (cs := #[.int .i64 a1_0, .int .i64 a1_1]) (t := 24) ?hr ?_; (case hd => rfl); (case hg => rfl); (case hr => first | (go_simp; done) | (go_simp; rfl)); intro gb317 hg w5 hbox hb; have n0_ := Aside0.mk (blk_below (g := gb316) (o := .cells #[.int .i64 a0_0, .int .i64 a0_1] 24 (0, 0)) (by (with_reducible repeat (first | refine blk_drewN ?_ _ | refine blk_drew ?_ | refine blk_alloc ?_ _)); exact BK316.out) hb); have n1_ := Aside0.mk (below_step (by repeat (first | (with_reducible first | exact HB.out | apply below_alloc | apply pw_below_drewN | apply below_drew1 | refine below_set ?_ GE316.out) | exact HB.out)) hb); have n2_ := Aside0.mk (hbox); have n3_ := Aside0.mk ((by rw [hg]; exact (below_size (by repeat (first | (with_reducible first | exact HB.out | apply below_alloc | apply pw_below_drewN | apply below_drew1 | refine below_set ?_ GE316.out) | exact HB.out))) : w.heap.size ≤ gb317)); have n4_ := Aside0.mk ((by rw [hg]; exact (below_size (by repeat (first | (with_reducible first | exact HB.out | apply below_alloc | apply pw_below_drewN | apply below_drew1 | refine below_set ?_ GE316.out) | exact HB.out))) : w.heap.size ≤ gb317)); have n5_ := Aside0.mk ((by rw [hg]; exact Nat.ne_of_lt (blk_lt (g := gb316) (o := .cells #[.int .i64 a0_0, .int .i64 a0_1] 24 (0, 0)) (by (with_reducible repeat (first | refine blk_drewN ?_ _ | refine blk_drew ?_ | refine blk_alloc ?_ _)); exact BK316.out)) : gb316 ≠ gb317)); have n6_ := Aside0.mk ((by rw [hg]; exact Nat.ne_of_gt (blk_lt (g := gb316) (o := .cells #[.int .i64 a0_0, .int .i64 a0_1] 24 (0, 0)) (by (with_reducible repeat (first | refine blk_drewN ?_ _ | refine blk_drew ?_ | refine blk_alloc ?_ _)); exact BK316.out)) : gb317 ≠ gb316)); clear BK316; clear HB; have BK316 := n0_; have HB := n1_; have BK317 := n2_; have GW317 := n3_; have GE317 := n4_; have NB316_317 := n5_; have NB317_316 := n6_; clear n0_ n1_ n2_ n3_ n4_ n5_ n6_; clear hb hbox hg))
 (try simp only [Act.put, List.setIfInBounds_toArray, List.set_cons_zero, List.set_cons_succ])
 go_cut [26] (fun v26 wc => ∃ (kq : Nat) (x26_2 : Bool), v26 = .bool x26_2 ∧ Aside0 (laws_FnRangeBoth.j0 kq x26_2 a0_0 a0_1 a1_0 a1_1 = some r) ∧ Aside0 (kq ≤ k) ∧ Aside0 (wc.heap[gb316]? = some (.cells #[.int .i64 a0_0, .int .i64 a0_1] 24 (0, 0))) ∧ Aside0 (wc.heap[gb317]? = some (.cells #[.int .i64 a1_0, .int .i64 a1_1] 24 (0, 0))) ∧ Aside0 (Below w.heap.size w wc))
 case first =>
  have H := HC3.out
  clear HC3
  replace H := Option.bind_eq_some_iff.mp H
  obtain ⟨t318, A60, H⟩ := H
  replace H : (if t318 = true then ((spec_RangeIn.f a1_0 a1_1).bind fun t319 => (if t319 = true then (if a0_1 < 1 then (laws_FnRangeBoth.j0 k true a0_0 a0_1 a1_0 a1_1) else (laws_FnRangeBoth.j0 k (decide (a1_1 < 1)) a0_0 a0_1 a1_0 a1_1)) else (laws_FnRangeBoth.j0 k true a0_0 a0_1 a1_0 a1_1))) else (laws_FnRangeBoth.j0 k true a0_0 a0_1 a1_0 a1_1)) = some r := H
  have A6 := Aside0.mk A60
  clear A60
  by_cases c7 : t318 = true
  ·subst c7
   have H1 : ((spec_RangeIn.f a1_0 a1_1).bind fun t319 => (if t319 = true then (if a0_1 < 1 then (laws_FnRangeBoth.j0 k true a0_0 a0_1 a1_0 a1_1) else (laws_FnRangeBoth.j0 k (decide (a1_1 < 1)) a0_0 a0_1 a1_0 a1_1)) else (laws_FnRangeBoth.j0 k true a0_0 a0_1 a1_0 a1_1))) = some r := by rw [if_pos rfl] at H; exact H
   clear H
   have H := H1
   clear H1
   replace H := Option.bind_eq_some_iff.mp H
   obtain ⟨t319, A80, H⟩ := H
   replace H : (if t319 = true then (if a0_1 < 1 then (laws_FnRangeBoth.j0 k true a0_0 a0_1 a1_0 a1_1) else (laws_FnRangeBoth.j0 k (decide (a1_1 < 1)) a0_0 a0_1 a1_0 a1_1)) else (laws_FnRangeBoth.j0 k true a0_0 a0_1 a1_0 a1_1)) = some r := H
   have A8 := Aside0.mk A80
   clear A80
   by_cases c9 : t319 = true
   ·subst c9
    have H1 : (if a0_1 < 1 then (laws_FnRangeBoth.j0 k true a0_0 a0_1 a1_0 a1_1) else (laws_FnRangeBoth.j0 k (decide (a1_1 < 1)) a0_0 a0_1 a1_0 a1_1)) = some r := by rw [if_pos rfl] at H; exact H
    clear H
    have H := H1
    clear H1
    by_cases c10 : a0_1 < 1
    ·rw [if_pos c10] at H
     have c10b0 : decide (a0_1 < 1) = true := decide_eq_true c10
     clear c10
     (first | rw [c10b0] | (simp only [i64_w, i32_w]; rw [c10b0]) | skip)
     have H' := Aside0.mk H
     clear H
     have hnb11 := NB316_317.out
     have hnc11 := NB317_316.out
     have hcz12_0 : w5.cell? ⟨gb316, 0, none⟩ = some (.int .i64 a0_0) := (blk_cell BK316.out 0).trans rfl
     have hcz12_1 : w5.cell? ⟨gb316, 1, none⟩ = some (.int .i64 a0_1) := (blk_cell BK316.out 1).trans rfl
     have hfz12_0 := blk_frozen BK316.out 0
     have hfz12_1 := blk_frozen BK316.out 1
     go_wp2_with (first | ((with_reducible refine gate_dst (N := 10) rfl ?_); refine goesL_ (some 10) rfl rfl Try.func19 (by kernel_rfl) rfl #[.agg #[.int .i64 a0_0, .int .i64 a0_1]] rfl (by (try simp only [List.map_toArray, List.map_cons, List.map_nil]); first | done | rfl | (simp only [List.length_drop, List.length_take]; rfl)) ?_; (with_reducible refine (spec_RangeIn.calls a0_0 a0_1 true _ A6.out).mono ?_); rintro e w13 ⟨rfl, hb⟩; refine ⟨_, rfl, ?_⟩; have n0_ := Aside0.mk (blk_below (g := gb316) (o := .cells #[.int .i64 a0_0, .int .i64 a0_1] 24 (0, 0)) (by (with_reducible repeat (first | refine blk_drewN ?_ _ | refine blk_drew ?_ | refine blk_alloc ?_ _)); exact BK316.out) hb); have n1_ := Aside0.mk (blk_below (g := gb317) (o := .cells #[.int .i64 a1_0, .int .i64 a1_1] 24 (0, 0)) (by (with_reducible repeat (first | refine blk_drewN ?_ _ | refine blk_drew ?_ | refine blk_alloc ?_ _)); exact BK317.out) hb); have n2_ := Aside0.mk (below_step (by repeat (first | (with_reducible first | exact HB.out | apply below_alloc | apply pw_below_drewN | apply below_drew1 | refine below_set ?_ GE316.out | refine below_set ?_ GE317.out) | exact HB.out)) hb); clear BK316; clear BK317; clear HB; have BK316 := n0_; have BK317 := n1_; have HB := n2_; clear n0_ n1_ n2_; (try clear hb); (try clear hb2); (try clear hk); (try clear hi); have hcz14_0 : w13.cell? ⟨gb317, 0, none⟩ = some (.int .i64 a1_0) := (blk_cell BK317.out 0).trans rfl; have hcz14_1 : w13.cell? ⟨gb317, 1, none⟩ = some (.int .i64 a1_1) := (blk_cell BK317.out 1).trans rfl; have hfz14_0 := blk_frozen BK317.out 0; have hfz14_1 := blk_frozen BK317.out 1) | (go_at_call 19; (with_reducible refine (spec_RangeIn.calls a1_0 a1_1 true _ A8.out).mono ?_); rintro e w15 ⟨rfl, hb⟩; have n0_ := Aside0.mk (blk_below (g := gb316) (o := .cells #[.int .i64 a0_0, .int .i64 a0_1] 24 (0, 0)) (by (with_reducible repeat (first | refine blk_drewN ?_ _ | refine blk_drew ?_ | refine blk_alloc ?_ _)); exact BK316.out) hb); have n1_ := Aside0.mk (blk_below (g := gb317) (o := .cells #[.int .i64 a1_0, .int .i64 a1_1] 24 (0, 0)) (by (with_reducible repeat (first | refine blk_drewN ?_ _ | refine blk_drew ?_ | refine blk_alloc ?_ _)); exact BK317.out) hb); have n2_ := Aside0.mk (below_step (by repeat (first | (with_reducible first | exact HB.out | apply below_alloc | apply pw_below_drewN | apply below_drew1 | refine below_set ?_ GE316.out | refine below_set ?_ GE317.out) | exact HB.out)) hb); clear BK316; clear BK317; clear HB; have BK316 := n0_; have BK317 := n1_; have HB := n2_; clear n0_ n1_ n2_; (try clear hb); (try clear hb2); (try clear hk); (try clear hi); have hcz16_0 : w15.cell? ⟨gb316, 0, none⟩ = some (.int .i64 a0_0) := (blk_cell BK316.out 0).trans rfl; have hcz16_1 : w15.cell? ⟨gb316, 1, none⟩ = some (.int .i64 a0_1) := (blk_cell BK316.out 1).trans rfl; have hfz16_0 := blk_frozen BK316.out 0; have hfz16_1 := blk_frozen BK316.out 1))
     go_meet
     case rel => exact ⟨_, (true), (by first | rfl | (simp; done) | (simp [*]; done)), H', ⟨by first | omega | exact Nat.le_refl _⟩, ⟨by (with_reducible repeat (first | refine blk_drewN ?_ _ | refine blk_drew ?_ | refine blk_alloc ?_ _)); exact BK316.out⟩, ⟨by (with_reducible repeat (first | refine blk_drewN ?_ _ | refine blk_drew ?_ | refine blk_alloc ?_ _)); exact BK317.out⟩, ⟨by repeat (first | (with_reducible first | exact HB.out | apply below_alloc | apply pw_below_drewN | apply below_drew1 | refine below_set ?_ GE316.out | refine below_set ?_ GE317.out) | exact HB.out)⟩⟩
    ·rw [if_neg c10] at H
     have c10b0 : decide (a0_1 < 1) = false := decide_eq_false c10
     clear c10
     (first | rw [c10b0] | (simp only [i64_w, i32_w]; rw [c10b0]) | skip)
     have H' := Aside0.mk H
     clear H
     have hnb17 := NB316_317.out
     have hnc17 := NB317_316.out
     have hcz18_0 : w5.cell? ⟨gb316, 0, none⟩ = some (.int .i64 a0_0) := (blk_cell BK316.out 0).trans rfl
     have hcz18_1 : w5.cell? ⟨gb316, 1, none⟩ = some (.int .i64 a0_1) := (blk_cell BK316.out 1).trans rfl
     have hfz18_0 := blk_frozen BK316.out 0
     have hfz18_1 := blk_frozen BK316.out 1
     go_wp2_with (first | ((with_reducible refine gate_dst (N := 10) rfl ?_); refine goesL_ (some 10) rfl rfl Try.func19 (by kernel_rfl) rfl #[.agg #[.int .i64 a0_0, .int .i64 a0_1]] rfl (by (try simp only [List.map_toArray, List.map_cons, List.map_nil]); first | done | rfl | (simp only [List.length_drop, List.length_take]; rfl)) ?_; (with_reducible refine (spec_RangeIn.calls a0_0 a0_1 true _ A6.out).mono ?_); rintro e w19 ⟨rfl, hb⟩; refine ⟨_, rfl, ?_⟩; have n0_ := Aside0.mk (blk_below (g := gb316) (o := .cells #[.int .i64 a0_0, .int .i64 a0_1] 24 (0, 0)) (by (with_reducible repeat (first | refine blk_drewN ?_ _ | refine blk_drew ?_ | refine blk_alloc ?_ _)); exact BK316.out) hb); have n1_ := Aside0.mk (blk_below (g := gb317) (o := .cells #[.int .i64 a1_0, .int .i64 a1_1] 24 (0, 0)) (by (with_reducible repeat (first | refine blk_drewN ?_ _ | refine blk_drew ?_ | refine blk_alloc ?_ _)); exact BK317.out) hb); have n2_ := Aside0.mk (below_step (by repeat (first | (with_reducible first | exact HB.out | apply below_alloc | apply pw_below_drewN | apply below_drew1 | refine below_set ?_ GE316.out | refine below_set ?_ GE317.out) | exact HB.out)) hb); clear BK316; clear BK317; clear HB; have BK316 := n0_; have BK317 := n1_; have HB := n2_; clear n0_ n1_ n2_; (try clear hb); (try clear hb2); (try clear hk); (try clear hi); have hcz20_0 : w19.cell? ⟨gb317, 0, none⟩ = some (.int .i64 a1_0) := (blk_cell BK317.out 0).trans rfl; have hcz20_1 : w19.cell? ⟨gb317, 1, none⟩ = some (.int .i64 a1_1) := (blk_cell BK317.out 1).trans rfl; have hfz20_0 := blk_frozen BK317.out 0; have hfz20_1 := blk_frozen BK317.out 1) | (go_at_call 19; (with_reducible refine (spec_RangeIn.calls a1_0 a1_1 true _ A8.out).mono ?_); rintro e w21 ⟨rfl, hb⟩; have n0_ := Aside0.mk (blk_below (g := gb316) (o := .cells #[.int .i64 a0_0, .int .i64 a0_1] 24 (0, 0)) (by (with_reducible repeat (first | refine blk_drewN ?_ _ | refine blk_drew ?_ | refine blk_alloc ?_ _)); exact BK316.out) hb); have n1_ := Aside0.mk (blk_below (g := gb317) (o := .cells #[.int .i64 a1_0, .int .i64 a1_1] 24 (0, 0)) (by (with_reducible repeat (first | refine blk_drewN ?_ _ | refine blk_drew ?_ | refine blk_alloc ?_ _)); exact BK317.out) hb); have n2_ := Aside0.mk (below_step (by repeat (first | (with_reducible first | exact HB.out | apply below_alloc | apply pw_below_drewN | apply below_drew1 | refine below_set ?_ GE316.out | refine below_set ?_ GE317.out) | exact HB.out)) hb); clear BK316; clear BK317; clear HB; have BK316 := n0_; have BK317 := n1_; have HB := n2_; clear n0_ n1_ n2_; (try clear hb); (try clear hb2); (try clear hk); (try clear hi); have hcz22_0 : w21.cell? ⟨gb316, 0, none⟩ = some (.int .i64 a0_0) := (blk_cell BK316.out 0).trans rfl; have hcz22_1 : w21.cell? ⟨gb316, 1, none⟩ = some (.int .i64 a0_1) := (blk_cell BK316.out 1).trans rfl; have hfz22_0 := blk_frozen BK316.out 0; have hfz22_1 := blk_frozen BK316.out 1; have hcz23_0 : w21.cell? ⟨gb317, 0, none⟩ = some (.int .i64 a1_0) := (blk_cell BK317.out 0).trans rfl; have hcz23_1 : w21.cell? ⟨gb317, 1, none⟩ = some (.int .i64 a1_1) := (blk_cell BK317.out 1).trans rfl; have hfz23_0 := blk_frozen BK317.out 0; have hfz23_1 := blk_frozen BK317.out 1))
     go_meet
     case rel => exact ⟨_, (decide (a1_1 < 1)), (by first | rfl | (simp; done) | (simp [*]; done)), H', ⟨by first | omega | exact Nat.le_refl _⟩, ⟨by (with_reducible repeat (first | refine blk_drewN ?_ _ | refine blk_drew ?_ | refine blk_alloc ?_ _)); exact BK316.out⟩, ⟨by (with_reducible repeat (first | refine blk_drewN ?_ _ | refine blk_drew ?_ | refine blk_alloc ?_ _)); exact BK317.out⟩, ⟨by repeat (first | (with_reducible first | exact HB.out | apply below_alloc | apply pw_below_drewN | apply below_drew1 | refine below_set ?_ GE316.out | refine below_set ?_ GE317.out) | exact HB.out)⟩⟩
   ·replace c9 := Bool.eq_false_iff.mpr c9
    subst c9
    have H1 : (laws_FnRangeBoth.j0 k true a0_0 a0_1 a1_0 a1_1) = some r := by rw [if_neg (show ¬ (false = true) by decide)] at H; exact H
    clear H
    have H := H1
    clear H1
    have H' := Aside0.mk H
    clear H
    have hnb24 := NB316_317.out
    have hnc24 := NB317_316.out
    have hcz25_0 : w5.cell? ⟨gb316, 0, none⟩ = some (.int .i64 a0_0) := (blk_cell BK316.out 0).trans rfl
    have hcz25_1 : w5.cell? ⟨gb316, 1, none⟩ = some (.int .i64 a0_1) := (blk_cell BK316.out 1).trans rfl
    have hfz25_0 := blk_frozen BK316.out 0
    have hfz25_1 := blk_frozen BK316.out 1
    go_wp2_with (first | ((with_reducible refine gate_dst (N := 10) rfl ?_); refine goesL_ (some 10) rfl rfl Try.func19 (by kernel_rfl) rfl #[.agg #[.int .i64 a0_0, .int .i64 a0_1]] rfl (by (try simp only [List.map_toArray, List.map_cons, List.map_nil]); first | done | rfl | (simp only [List.length_drop, List.length_take]; rfl)) ?_; (with_reducible refine (spec_RangeIn.calls a0_0 a0_1 true _ A6.out).mono ?_); rintro e w26 ⟨rfl, hb⟩; refine ⟨_, rfl, ?_⟩; have n0_ := Aside0.mk (blk_below (g := gb316) (o := .cells #[.int .i64 a0_0, .int .i64 a0_1] 24 (0, 0)) (by (with_reducible repeat (first | refine blk_drewN ?_ _ | refine blk_drew ?_ | refine blk_alloc ?_ _)); exact BK316.out) hb); have n1_ := Aside0.mk (blk_below (g := gb317) (o := .cells #[.int .i64 a1_0, .int .i64 a1_1] 24 (0, 0)) (by (with_reducible repeat (first | refine blk_drewN ?_ _ | refine blk_drew ?_ | refine blk_alloc ?_ _)); exact BK317.out) hb); have n2_ := Aside0.mk (below_step (by repeat (first | (with_reducible first | exact HB.out | apply below_alloc | apply pw_below_drewN | apply below_drew1 | refine below_set ?_ GE316.out | refine below_set ?_ GE317.out) | exact HB.out)) hb); clear BK316; clear BK317; clear HB; have BK316 := n0_; have BK317 := n1_; have HB := n2_; clear n0_ n1_ n2_; (try clear hb); (try clear hb2); (try clear hk); (try clear hi); have hcz27_0 : w26.cell? ⟨gb317, 0, none⟩ = some (.int .i64 a1_0) := (blk_cell BK317.out 0).trans rfl; have hcz27_1 : w26.cell? ⟨gb317, 1, none⟩ = some (.int .i64 a1_1) := (blk_cell BK317.out 1).trans rfl; have hfz27_0 := blk_frozen BK317.out 0; have hfz27_1 := blk_frozen BK317.out 1) | (go_at_call 19; (with_reducible refine (spec_RangeIn.calls a1_0 a1_1 false _ A8.out).mono ?_); rintro e w28 ⟨rfl, hb⟩; have n0_ := Aside0.mk (blk_below (g := gb316) (o := .cells #[.int .i64 a0_0, .int .i64 a0_1] 24 (0, 0)) (by (with_reducible repeat (first | refine blk_drewN ?_ _ | refine blk_drew ?_ | refine blk_alloc ?_ _)); exact BK316.out) hb); have n1_ := Aside0.mk (blk_below (g := gb317) (o := .cells #[.int .i64 a1_0, .int .i64 a1_1] 24 (0, 0)) (by (with_reducible repeat (first | refine blk_drewN ?_ _ | refine blk_drew ?_ | refine blk_alloc ?_ _)); exact BK317.out) hb); have n2_ := Aside0.mk (below_step (by repeat (first | (with_reducible first | exact HB.out | apply below_alloc | apply pw_below_drewN | apply below_drew1 | refine below_set ?_ GE316.out | refine below_set ?_ GE317.out) | exact HB.out)) hb); clear BK316; clear BK317; clear HB; have BK316 := n0_; have BK317 := n1_; have HB := n2_; clear n0_ n1_ n2_; (try clear hb); (try clear hb2); (try clear hk); (try clear hi)))
    go_meet
    case rel => exact ⟨_, (true), (by first | rfl | (simp; done) | (simp [*]; done)), H', ⟨by first | omega | exact Nat.le_refl _⟩, ⟨by (with_reducible repeat (first | refine blk_drewN ?_ _ | refine blk_drew ?_ | refine blk_alloc ?_ _)); exact BK316.out⟩, ⟨by (with_reducible repeat (first | refine blk_drewN ?_ _ | refine blk_drew ?_ | refine blk_alloc ?_ _)); exact BK317.out⟩, ⟨by repeat (first | (with_reducible first | exact HB.out | apply below_alloc | apply pw_below_drewN | apply below_drew1 | refine below_set ?_ GE316.out | refine below_set ?_ GE317.out) | exact HB.out)⟩⟩
  ·replace c7 := Bool.eq_false_iff.mpr c7
   subst c7
   have H1 : (laws_FnRangeBoth.j0 k true a0_0 a0_1 a1_0 a1_1) = some r := by rw [if_neg (show ¬ (false = true) by decide)] at H; exact H
   clear H
   have H := H1
   clear H1
   have H' := Aside0.mk H
   clear H
   have hnb29 := NB316_317.out
   have hnc29 := NB317_316.out
   have hcz30_0 : w5.cell? ⟨gb316, 0, none⟩ = some (.int .i64 a0_0) := (blk_cell BK316.out 0).trans rfl
   have hcz30_1 : w5.cell? ⟨gb316, 1, none⟩ = some (.int .i64 a0_1) := (blk_cell BK316.out 1).trans rfl
   have hfz30_0 := blk_frozen BK316.out 0
   have hfz30_1 := blk_frozen BK316.out 1
   go_wp2_with (first | ((with_reducible refine gate_dst (N := 10) rfl ?_); refine goesL_ (some 10) rfl rfl Try.func19 (by kernel_rfl) rfl #[.agg #[.int .i64 a0_0, .int .i64 a0_1]] rfl (by (try simp only [List.map_toArray, List.map_cons, List.map_nil]); first | done | rfl | (simp only [List.length_drop, List.length_take]; rfl)) ?_; (with_reducible refine (spec_RangeIn.calls a0_0 a0_1 false _ A6.out).mono ?_); rintro e w31 ⟨rfl, hb⟩; refine ⟨_, rfl, ?_⟩; have n0_ := Aside0.mk (blk_below (g := gb316) (o := .cells #[.int .i64 a0_0, .int .i64 a0_1] 24 (0, 0)) (by (with_reducible repeat (first | refine blk_drewN ?_ _ | refine blk_drew ?_ | refine blk_alloc ?_ _)); exact BK316.out) hb); have n1_ := Aside0.mk (blk_below (g := gb317) (o := .cells #[.int .i64 a1_0, .int .i64 a1_1] 24 (0, 0)) (by (with_reducible repeat (first | refine blk_drewN ?_ _ | refine blk_drew ?_ | refine blk_alloc ?_ _)); exact BK317.out) hb); have n2_ := Aside0.mk (below_step (by repeat (first | (with_reducible first | exact HB.out | apply below_alloc | apply pw_below_drewN | apply below_drew1 | refine below_set ?_ GE316.out | refine below_set ?_ GE317.out) | exact HB.out)) hb); clear BK316; clear BK317; clear HB; have BK316 := n0_; have BK317 := n1_; have HB := n2_; clear n0_ n1_ n2_; (try clear hb); (try clear hb2); (try clear hk); (try clear hi)))
   go_meet
   case rel => exact ⟨_, (true), (by first | rfl | (simp; done) | (simp [*]; done)), H', ⟨by first | omega | exact Nat.le_refl _⟩, ⟨by (with_reducible repeat (first | refine blk_drewN ?_ _ | refine blk_drew ?_ | refine blk_alloc ?_ _)); exact BK316.out⟩, ⟨by (with_reducible repeat (first | refine blk_drewN ?_ _ | refine blk_drew ?_ | refine blk_alloc ?_ _)); exact BK317.out⟩, ⟨by repeat (first | (with_reducible first | exact HB.out | apply below_alloc | apply pw_below_drewN | apply below_drew1 | refine below_set ?_ GE316.out | refine below_set ?_ GE317.out) | exact HB.out)⟩⟩
 case rest =>
  clear HC3
  try clear c1
  try clear c2
  try clear p2
  try clear c5
  try clear c7
  try clear c9
  try clear c10
  try clear c10b0
  try clear c11
  try clear c17
  try clear c19
  try clear c24
  try clear c29
  try clear hcz12_0
  try clear hcz12_1
  try clear hcz14_0
  try clear hcz14_1
  try clear hcz16_0
  try clear hcz16_1
  try clear hcz18_0
  try clear hcz18_1
  try clear hcz20_0
  try clear hcz20_1
  try clear hcz22_0
  try clear hcz22_1
  try clear hcz23_0
  try clear hcz23_1
  try clear hcz25_0
  try clear hcz25_1
  try clear hcz27_0
  try clear hcz27_1
  try clear hcz30_0
  try clear hcz30_1
  try clear hfz12_0
  try clear hfz12_1
  try clear hfz14_0
  try clear hfz14_1
  try clear hfz16_0
  try clear hfz16_1
  try clear hfz18_0
  try clear hfz18_1
  try clear hfz20_0
  try clear hfz20_1
  try clear hfz22_0
  try clear hfz22_1
  try clear hfz23_0
  try clear hfz23_1
  try clear hfz25_0
  try clear hfz25_1
  try clear hfz27_0
  try clear hfz27_1
  try clear hfz30_0
  try clear hfz30_1
  obtain ⟨kq, x26_2, rfl, HA, HJ2, BK316, BK317, HB⟩ := hcut
  cases kq with
  | zero => exact absurd HA.out (by simp [laws_FnRangeBoth.j0])
  | succ kj2 =>
   have H := HA.out
   clear HA
   simp only [laws_FnRangeBoth.j0] at H
   by_cases c32 : x26_2 = true
   ·subst c32
    have H1 : (some true) = some r := by rw [if_pos rfl] at H; exact H
    clear H
    have H := H1
    clear H1
    obtain rfl := Option.some.inj H
    go_wp2
    go_ret
    exact ⟨by first | rfl | (simp [errW_none, errW_some] <;> rfl) | (simp [*, errW_none, errW_some] <;> rfl), by repeat (first | (with_reducible first | exact HB.out | apply below_alloc | apply pw_below_drewN | apply below_drew1 | refine below_set ?_ GE316.out | refine below_set ?_ GE317.out) | exact HB.out)⟩
   ·replace c32 := Bool.eq_false_iff.mpr c32
    subst c32
    have H1 : ((impl_RangeBoth.f a0_0 a0_1 a1_0 a1_1).bind fun bt320 => ((impl_RangeBoth.f a1_0 a1_1 a0_0 a0_1).bind fun bt322 => ((laws_rangeAwake.f kj2).bind fun t326 => (if t326 = true then ((impl_RangeEnd.f a0_0 a0_1).bind fun t327 => (if t327 = (wrap64 (a0_0 + a0_1)) then ((impl_RangeEmpty.f a0_0 a0_1).bind fun t328 => (laws_FnRangeBoth.j1 kj2 (mx a0_0 a1_0) (mn (wrap64 (a0_0 + a0_1)) (wrap64 (a1_0 + a1_1))) t328 bt320.1 bt320.2 bt322.1 bt322.2)) else (laws_FnRangeBoth.j1 kj2 (mx a0_0 a1_0) (mn (wrap64 (a0_0 + a0_1)) (wrap64 (a1_0 + a1_1))) true bt320.1 bt320.2 bt322.1 bt322.2))) else (laws_FnRangeBoth.j1 kj2 (mx a0_0 a1_0) (mn (wrap64 (a0_0 + a0_1)) (wrap64 (a1_0 + a1_1))) true bt320.1 bt320.2 bt322.1 bt322.2))))) = some r := by rw [if_neg (show ¬ (false = true) by decide)] at H; exact H
    clear H
    have H := H1
    clear H1
    obtain ⟨ji33, hji33⟩ : ∃ j_ : Int, (mx a0_0 a1_0) = j_ := ⟨_, rfl⟩
    replace H : ((impl_RangeBoth.f a0_0 a0_1 a1_0 a1_1).bind fun bt320 => ((impl_RangeBoth.f a1_0 a1_1 a0_0 a0_1).bind fun bt322 => ((laws_rangeAwake.f kj2).bind fun t326 => (if t326 = true then ((impl_RangeEnd.f a0_0 a0_1).bind fun t327 => (if t327 = (wrap64 (a0_0 + a0_1)) then ((impl_RangeEmpty.f a0_0 a0_1).bind fun t328 => (laws_FnRangeBoth.j1 kj2 ji33 (mn (wrap64 (a0_0 + a0_1)) (wrap64 (a1_0 + a1_1))) t328 bt320.1 bt320.2 bt322.1 bt322.2)) else (laws_FnRangeBoth.j1 kj2 ji33 (mn (wrap64 (a0_0 + a0_1)) (wrap64 (a1_0 + a1_1))) true bt320.1 bt320.2 bt322.1 bt322.2))) else (laws_FnRangeBoth.j1 kj2 ji33 (mn (wrap64 (a0_0 + a0_1)) (wrap64 (a1_0 + a1_1))) true bt320.1 bt320.2 bt322.1 bt322.2))))) = some r := by first | (rw [hji33] at H; exact H) | (simp only [hji33] at H ⊢; exact H)
    have hji33_ : (if a0_0 < a1_0 then a1_0 else a0_0) = ji33 := hji33
    obtain ⟨ji34, hji34⟩ : ∃ j_ : Int, (mn (wrap64 (a0_0 + a0_1)) (wrap64 (a1_0 + a1_1))) = j_ := ⟨_, rfl⟩
    replace H : ((impl_RangeBoth.f a0_0 a0_1 a1_0 a1_1).bind fun bt320 => ((impl_RangeBoth.f a1_0 a1_1 a0_0 a0_1).bind fun bt322 => ((laws_rangeAwake.f kj2).bind fun t326 => (if t326 = true then ((impl_RangeEnd.f a0_0 a0_1).bind fun t327 => (if t327 = (wrap64 (a0_0 + a0_1)) then ((impl_RangeEmpty.f a0_0 a0_1).bind fun t328 => (laws_FnRangeBoth.j1 kj2 ji33 ji34 t328 bt320.1 bt320.2 bt322.1 bt322.2)) else (laws_FnRangeBoth.j1 kj2 ji33 ji34 true bt320.1 bt320.2 bt322.1 bt322.2))) else (laws_FnRangeBoth.j1 kj2 ji33 ji34 true bt320.1 bt320.2 bt322.1 bt322.2))))) = some r := by first | (rw [hji34] at H; exact H) | (simp only [hji34] at H ⊢; exact H)
    have hji34_ : (if (wrap64 (a1_0 + a1_1)) < (wrap64 (a0_0 + a0_1)) then (wrap64 (a1_0 + a1_1)) else (wrap64 (a0_0 + a0_1))) = ji34 := hji34
    replace H := Option.bind_eq_some_iff.mp H
    obtain ⟨⟨t320, t321⟩, A350, H⟩ := H
    replace H : ((impl_RangeBoth.f a1_0 a1_1 a0_0 a0_1).bind fun bt322 => ((laws_rangeAwake.f kj2).bind fun t326 => (if t326 = true then ((impl_RangeEnd.f a0_0 a0_1).bind fun t327 => (if t327 = (wrap64 (a0_0 + a0_1)) then ((impl_RangeEmpty.f a0_0 a0_1).bind fun t328 => (laws_FnRangeBoth.j1 kj2 ji33 ji34 t328 t320 t321 bt322.1 bt322.2)) else (laws_FnRangeBoth.j1 kj2 ji33 ji34 true t320 t321 bt322.1 bt322.2))) else (laws_FnRangeBoth.j1 kj2 ji33 ji34 true t320 t321 bt322.1 bt322.2)))) = some r := H
    have A35 := Aside0.mk A350
    clear A350
    replace H := Option.bind_eq_some_iff.mp H
    obtain ⟨⟨t322, t323⟩, A360, H⟩ := H
    replace H : ((laws_rangeAwake.f kj2).bind fun t326 => (if t326 = true then ((impl_RangeEnd.f a0_0 a0_1).bind fun t327 => (if t327 = (wrap64 (a0_0 + a0_1)) then ((impl_RangeEmpty.f a0_0 a0_1).bind fun t328 => (laws_FnRangeBoth.j1 kj2 ji33 ji34 t328 t320 t321 t322 t323)) else (laws_FnRangeBoth.j1 kj2 ji33 ji34 true t320 t321 t322 t323))) else (laws_FnRangeBoth.j1 kj2 ji33 ji34 true t320 t321 t322 t323))) = some r := H
    have A36 := Aside0.mk A360
    clear A360
    have HC37 := Aside0.mk H
    clear H
    try go_wp2
    have n0_ := Aside0.mk (blk_drew BK316.out)
    have n1_ := Aside0.mk (blk_drew BK317.out)
    have n2_ := Aside0.mk (below_drew1 HB.out)
    clear BK316
    clear BK317
    clear HB
    have BK316 := n0_
    have BK317 := n1_
    have HB := n2_
    clear n0_ n1_ n2_
    refine start_ (n := 18) (S := fun w' => w'.cell? ⟨gb316, 0, none⟩ = some (.int .i64 a0_0) ∧ w'.cell? ⟨gb316, 1, none⟩ = some (.int .i64 a0_1) ∧ w'.cell? ⟨gb317, 0, none⟩ = some (.int .i64 a1_0) ∧ w'.cell? ⟨gb317, 1, none⟩ = some (.int .i64 a1_1)) (ds := []) #[false, false, false, false, false, false, false, false, false, false, false, false, false, false, false, false, false, false] (by kernel_rfl) rfl rfl ⟨(blk_cell BK316.out 0).trans rfl, (blk_cell BK316.out 1).trans rfl, (blk_cell BK317.out 0).trans rfl, (blk_cell BK317.out 1).trans rfl⟩ (fun hHeld => ?_); refine with_tabW laws_FnRangeBoth.tab3 laws_FnRangeBoth.bits3 (fun HT_ HW_ => ?_)
    generalize wc.drew = w38 at BK316 BK317 HB hHeld ⊢
    refine pure_ (i := 0) (N := some 27) (v := ?_) (a' := ?_) #[true, false, false, false, false, false, false, false, false, false, false, false, false, false, false, false, false, false] rfl rfl (any_of HT_.out (by kernel_rfl)) (fun _ _ _ h => h) (Or.inl ⟨by rfl, ?_⟩) ?_ ?_
    rotate_left
    ·intro w'
     go_simp
     with_reducible rfl
    rotate_left
    ·simp only [Act.put, List.setIfInBounds_toArray, List.set_cons_zero, List.set_cons_succ, i64_w, i32_w]
     rfl
    refine pure_ (i := 2) (N := some 29) (v := ?_) (a' := ?_) #[true, false, true, false, false, false, false, false, false, false, false, false, false, false, false, false, false, false] rfl rfl (any_of HT_.out (by kernel_rfl)) (fun _ _ _ h => h) (Or.inl ⟨by rfl, ?_⟩) ?_ ?_
    rotate_left
    ·intro w'
     go_simp
     with_reducible rfl
    rotate_left
    ·simp only [Act.put, List.setIfInBounds_toArray, List.set_cons_zero, List.set_cons_succ, i64_w, i32_w]
     rfl
    refine pure_ (i := 5) (N := some 32) (v := ?_) (a' := ?_) #[true, false, true, false, false, true, false, false, false, false, false, false, false, false, false, false, false, false] rfl rfl (any_of HT_.out (by kernel_rfl)) (fun _ _ _ h => h) (Or.inl ⟨by rfl, ?_⟩) ?_ ?_
    rotate_left
    ·intro w'
     go_simp
     with_reducible rfl
    rotate_left
    ·simp only [Act.put, List.setIfInBounds_toArray, List.set_cons_zero, List.set_cons_succ, i64_w, i32_w]
     rfl
    refine pure_ (i := 7) (N := some 34) (v := ?_) (a' := ?_) #[true, false, true, false, false, true, false, true, false, false, false, false, false, false, false, false, false, false] rfl rfl (any_of HT_.out (by kernel_rfl)) (fun _ _ _ h => h) (Or.inl ⟨by rfl, ?_⟩) ?_ ?_
    rotate_left
    ·intro w'
     go_simp
     with_reducible rfl
    rotate_left
    ·simp only [Act.put, List.setIfInBounds_toArray, List.set_cons_zero, List.set_cons_succ, i64_w, i32_w]
     rfl
    refine pure_ (i := 10) (N := some 37) (v := ?_) (a' := ?_) #[true, false, true, false, false, true, false, true, false, false, true, false, false, false, false, false, false, false] rfl rfl (any_of HT_.out (by kernel_rfl)) (fun _ _ _ h => h) (Or.inl ⟨by rfl, ?_⟩) ?_ ?_
    rotate_left
    ·intro w'
     go_simp
     with_reducible rfl
    rotate_left
    ·simp only [Act.put, List.setIfInBounds_toArray, List.set_cons_zero, List.set_cons_succ, i64_w, i32_w]
     rfl
    refine pure_ (i := 12) (N := some 39) (v := ?_) (a' := ?_) #[true, false, true, false, false, true, false, true, false, false, true, false, true, false, false, false, false, false] rfl rfl (any_of HT_.out (by kernel_rfl)) (fun _ _ _ h => h) (Or.inl ⟨by rfl, ?_⟩) ?_ ?_
    rotate_left
    ·intro w'
     go_simp
     with_reducible rfl
    rotate_left
    ·simp only [Act.put, List.setIfInBounds_toArray, List.set_cons_zero, List.set_cons_succ, i64_w, i32_w]
     rfl
    refine take_ (i := 1) (N := some 28) (v := ?_) (a' := ?_) #[true, true, true, false, false, true, false, true, false, false, true, false, true, false, false, false, false, false] rfl rfl (take_ofW HT_.out HW_.out (by kernel_rfl)) (fun _ _ _ h => h) (Or.inl ⟨by rfl, ?_⟩) hHeld ?_ ?_
    rotate_left
    ·rintro w' ⟨s0, s1, s2, s3⟩
     go_simp
     with_reducible rfl
    rotate_left
    ·simp only [Act.put, List.setIfInBounds_toArray, List.set_cons_zero, List.set_cons_succ, i64_w, i32_w]
     rfl
    refine take_ (i := 3) (N := some 30) (v := ?_) (a' := ?_) #[true, true, true, true, false, true, false, true, false, false, true, false, true, false, false, false, false, false] rfl rfl (take_ofW HT_.out HW_.out (by kernel_rfl)) (fun _ _ _ h => h) (Or.inl ⟨by rfl, ?_⟩) hHeld ?_ ?_
    rotate_left
    ·rintro w' ⟨s0, s1, s2, s3⟩
     go_simp
     with_reducible rfl
    rotate_left
    ·simp only [Act.put, List.setIfInBounds_toArray, List.set_cons_zero, List.set_cons_succ, i64_w, i32_w]
     rfl
    refine pure_ (i := 4) (N := some 31) (v := ?_) (a' := ?_) #[true, true, true, true, true, true, false, true, false, false, true, false, true, false, false, false, false, false] rfl rfl (any_of HT_.out (by kernel_rfl)) (fun _ _ _ h => h) (Or.inl ⟨by rfl, ?_⟩) ?_ ?_
    rotate_left
    ·intro w'
     go_simp
     with_reducible rfl
    rotate_left
    ·simp only [Act.put, List.setIfInBounds_toArray, List.set_cons_zero, List.set_cons_succ, i64_w, i32_w]
     rfl
    refine pure_ (i := 16) (N := some 5) (v := ?_) (a' := ?_) #[true, true, true, true, true, true, false, true, false, false, true, false, true, false, false, false, true, false] rfl rfl (any_of HT_.out (by kernel_rfl)) (fun _ _ _ h => h) (Or.inl ⟨by rfl, ?_⟩) ?_ ?_
    rotate_left
    ·intro w'
     go_simp
     with_reducible rfl
    rotate_left
    ·simp only [Act.put, List.setIfInBounds_toArray, List.set_cons_zero, List.set_cons_succ, i64_w, i32_w]
     rfl
    refine take_ (i := 6) (N := some 33) (v := ?_) (a' := ?_) #[true, true, true, true, true, true, true, true, false, false, true, false, true, false, false, false, true, false] rfl rfl (take_ofW HT_.out HW_.out (by kernel_rfl)) (fun _ _ _ h => h) (Or.inl ⟨by rfl, ?_⟩) hHeld ?_ ?_
    rotate_left
    ·rintro w' ⟨s0, s1, s2, s3⟩
     go_simp
     with_reducible rfl
    rotate_left
    ·simp only [Act.put, List.setIfInBounds_toArray, List.set_cons_zero, List.set_cons_succ, i64_w, i32_w]
     rfl
    refine take_ (i := 8) (N := some 35) (v := ?_) (a' := ?_) #[true, true, true, true, true, true, true, true, true, false, true, false, true, false, false, false, true, false] rfl rfl (take_ofW HT_.out HW_.out (by kernel_rfl)) (fun _ _ _ h => h) (Or.inl ⟨by rfl, ?_⟩) hHeld ?_ ?_
    rotate_left
    ·rintro w' ⟨s0, s1, s2, s3⟩
     go_simp
     with_reducible rfl
    rotate_left
    ·simp only [Act.put, List.setIfInBounds_toArray, List.set_cons_zero, List.set_cons_succ, i64_w, i32_w]
     rfl
    refine pure_ (i := 9) (N := some 36) (v := ?_) (a' := ?_) #[true, true, true, true, true, true, true, true, true, true, true, false, true, false, false, false, true, false] rfl rfl (any_of HT_.out (by kernel_rfl)) (fun _ _ _ h => h) (Or.inl ⟨by rfl, ?_⟩) ?_ ?_
    rotate_left
    ·intro w'
     go_simp
     with_reducible rfl
    rotate_left
    ·simp only [Act.put, List.setIfInBounds_toArray, List.set_cons_zero, List.set_cons_succ, i64_w, i32_w]
     rfl
    refine take_ (i := 11) (N := some 38) (v := ?_) (a' := ?_) #[true, true, true, true, true, true, true, true, true, true, true, true, true, false, false, false, true, false] rfl rfl (take_ofW HT_.out HW_.out (by kernel_rfl)) (fun _ _ _ h => h) (Or.inl ⟨by rfl, ?_⟩) hHeld ?_ ?_
    rotate_left
    ·rintro w' ⟨s0, s1, s2, s3⟩
     go_simp
     with_reducible rfl
    rotate_left
    ·simp only [Act.put, List.setIfInBounds_toArray, List.set_cons_zero, List.set_cons_succ, i64_w, i32_w]
     rfl
    refine take_ (i := 13) (N := some 40) (v := ?_) (a' := ?_) #[true, true, true, true, true, true, true, true, true, true, true, true, true, true, false, false, true, false] rfl rfl (take_ofW HT_.out HW_.out (by kernel_rfl)) (fun _ _ _ h => h) (Or.inl ⟨by rfl, ?_⟩) hHeld ?_ ?_
    rotate_left
    ·rintro w' ⟨s0, s1, s2, s3⟩
     go_simp
     with_reducible rfl
    rotate_left
    ·simp only [Act.put, List.setIfInBounds_toArray, List.set_cons_zero, List.set_cons_succ, i64_w, i32_w]
     rfl
    refine pure_ (i := 14) (N := some 41) (v := ?_) (a' := ?_) #[true, true, true, true, true, true, true, true, true, true, true, true, true, true, true, false, true, false] rfl rfl (any_of HT_.out (by kernel_rfl)) (fun _ _ _ h => h) (Or.inl ⟨by rfl, ?_⟩) ?_ ?_
    rotate_left
    ·intro w'
     go_simp
     with_reducible rfl
    rotate_left
    ·simp only [Act.put, List.setIfInBounds_toArray, List.set_cons_zero, List.set_cons_succ, i64_w, i32_w]
     rfl
    refine pure_ (i := 15) (N := some 42) (v := ?_) (a' := ?_) #[true, true, true, true, true, true, true, true, true, true, true, true, true, true, true, true, true, false] rfl rfl (any_of HT_.out (by kernel_rfl)) (fun _ _ _ h => h) (Or.inl ⟨by rfl, ?_⟩) ?_ ?_
    rotate_left
    ·intro w'
     go_simp
     with_reducible rfl
    rotate_left
    ·simp only [Act.put, List.setIfInBounds_toArray, List.set_cons_zero, List.set_cons_succ, i64_w, i32_w]
     rfl
    refine pure_ (i := 17) (N := some 6) (v := ?_) (a' := ?_) #[true, true, true, true, true, true, true, true, true, true, true, true, true, true, true, true, true, true] rfl rfl (any_of HT_.out (by kernel_rfl)) (fun _ _ _ h => h) (Or.inl ⟨by rfl, ?_⟩) ?_ ?_
    rotate_left
    ·intro w'
     go_simp
     with_reducible rfl
    rotate_left
    ·simp only [Act.put, List.setIfInBounds_toArray, List.set_cons_zero, List.set_cons_succ, i64_w, i32_w]
     rfl
    refine done_ (done_of HT_.out (by kernel_rfl)) ?_
    try go_wp2
    have n0_ := Aside0.mk (blk_drew BK316.out)
    have n1_ := Aside0.mk (blk_drew BK317.out)
    have n2_ := Aside0.mk (below_drew1 HB.out)
    clear BK316
    clear BK317
    clear HB
    have BK316 := n0_
    have BK317 := n1_
    have HB := n2_
    clear n0_ n1_ n2_
    refine start_ (n := 10) (S := fun w' => w'.cell? ⟨gb316, 0, none⟩ = some (.int .i64 a0_0) ∧ w'.cell? ⟨gb316, 1, none⟩ = some (.int .i64 a0_1) ∧ w'.cell? ⟨gb317, 0, none⟩ = some (.int .i64 a1_0) ∧ w'.cell? ⟨gb317, 1, none⟩ = some (.int .i64 a1_1)) (ds := []) #[false, false, false, false, false, false, false, false, false, false] (by kernel_rfl) rfl rfl ⟨(blk_cell BK316.out 0).trans rfl, (blk_cell BK316.out 1).trans rfl, (blk_cell BK317.out 0).trans rfl, (blk_cell BK317.out 1).trans rfl⟩ (fun hHeld => ?_); refine with_tabW laws_FnRangeBoth.tab4 laws_FnRangeBoth.bits4 (fun HT_ HW_ => ?_)
    generalize w38.drew = w39 at BK316 BK317 HB hHeld ⊢
    refine take_ (i := 0) (N := some 43) (v := ?_) (a' := ?_) #[true, false, false, false, false, false, false, false, false, false] rfl rfl (take_ofW HT_.out HW_.out (by kernel_rfl)) (fun _ _ _ h => h) (Or.inl ⟨by rfl, ?_⟩) hHeld ?_ ?_
    rotate_left
    ·rintro w' ⟨s0, s1, s2, s3⟩
     go_simp
     with_reducible rfl
    rotate_left
    ·simp only [Act.put, List.setIfInBounds_toArray, List.set_cons_zero, List.set_cons_succ, i64_w, i32_w]
     rfl
    refine take_ (i := 1) (N := some 44) (v := ?_) (a' := ?_) #[true, true, false, false, false, false, false, false, false, false] rfl rfl (take_ofW HT_.out HW_.out (by kernel_rfl)) (fun _ _ _ h => h) (Or.inl ⟨by rfl, ?_⟩) hHeld ?_ ?_
    rotate_left
    ·rintro w' ⟨s0, s1, s2, s3⟩
     go_simp
     with_reducible rfl
    rotate_left
    ·simp only [Act.put, List.setIfInBounds_toArray, List.set_cons_zero, List.set_cons_succ, i64_w, i32_w]
     rfl
    refine take_ (i := 3) (N := some 46) (v := ?_) (a' := ?_) #[true, true, false, true, false, false, false, false, false, false] rfl rfl (take_ofW HT_.out HW_.out (by kernel_rfl)) (fun _ _ _ h => h) (Or.inl ⟨by rfl, ?_⟩) hHeld ?_ ?_
    rotate_left
    ·rintro w' ⟨s0, s1, s2, s3⟩
     go_simp
     with_reducible rfl
    rotate_left
    ·simp only [Act.put, List.setIfInBounds_toArray, List.set_cons_zero, List.set_cons_succ, i64_w, i32_w]
     rfl
    refine take_ (i := 4) (N := some 47) (v := ?_) (a' := ?_) #[true, true, false, true, true, false, false, false, false, false] rfl rfl (take_ofW HT_.out HW_.out (by kernel_rfl)) (fun _ _ _ h => h) (Or.inl ⟨by rfl, ?_⟩) hHeld ?_ ?_
    rotate_left
    ·rintro w' ⟨s0, s1, s2, s3⟩
     go_simp
     with_reducible rfl
    rotate_left
    ·simp only [Act.put, List.setIfInBounds_toArray, List.set_cons_zero, List.set_cons_succ, i64_w, i32_w]
     rfl
    refine join_ (σ := Nat × Nat) 2 #[true, true, true, true, true, true, true, true, false, false] (fun s_ => [(45, .agg #[.int .i64 t320, .int .i64 t321]), (48, .agg #[.int .i64 t322, .int .i64 t323]), (7, .pointer (some ⟨s_.1, 0, none⟩)), (8, .pointer (some ⟨s_.2, 0, none⟩))]) (fun s_ w' => (w'.cell? ⟨gb316, 0, none⟩ = some (.int .i64 a0_0) ∧ w'.cell? ⟨gb316, 1, none⟩ = some (.int .i64 a0_1) ∧ w'.cell? ⟨gb317, 0, none⟩ = some (.int .i64 a1_0) ∧ w'.cell? ⟨gb317, 1, none⟩ = some (.int .i64 a1_1)) ∧ (w'.heap[gb316]? = some (.cells #[.int .i64 a0_0, .int .i64 a0_1] 24 (0, 0))) ∧ (w'.heap[gb317]? = some (.cells #[.int .i64 a1_0, .int .i64 a1_1] 24 (0, 0))) ∧ (w'.heap[s_.1]? = some (.cells #[.int .i64 0, .int .i64 0] 24 (0, 0))) ∧ (w'.heap[s_.2]? = some (.cells #[.int .i64 0, .int .i64 0] 24 (0, 0))) ∧ (w.heap.size ≤ s_.1) ∧ (w.heap.size ≤ s_.1) ∧ (gb316 ≠ s_.1) ∧ (s_.1 ≠ gb316) ∧ (gb317 ≠ s_.1) ∧ (s_.1 ≠ gb317) ∧ (s_.2 ≠ s_.1) ∧ (s_.1 ≠ s_.2) ∧ (w.heap.size ≤ s_.2) ∧ (w.heap.size ≤ s_.2) ∧ (gb316 ≠ s_.2) ∧ (s_.2 ≠ gb316) ∧ (gb317 ≠ s_.2) ∧ (s_.2 ≠ gb317) ∧ (Below w.heap.size w w')) ?_ ?_
    rotate_left
    ·intro hJ2_5_6_7
     refine join_ (σ := Nat) 3 #[true, true, true, true, true, true, true, false, false, false] (fun s_ => [(45, .agg #[.int .i64 t320, .int .i64 t321]), (48, .agg #[.int .i64 t322, .int .i64 t323]), (7, .pointer (some ⟨s_, 0, none⟩))]) (fun s_ w' => (w'.cell? ⟨gb316, 0, none⟩ = some (.int .i64 a0_0) ∧ w'.cell? ⟨gb316, 1, none⟩ = some (.int .i64 a0_1) ∧ w'.cell? ⟨gb317, 0, none⟩ = some (.int .i64 a1_0) ∧ w'.cell? ⟨gb317, 1, none⟩ = some (.int .i64 a1_1)) ∧ (w'.heap[gb316]? = some (.cells #[.int .i64 a0_0, .int .i64 a0_1] 24 (0, 0))) ∧ (w'.heap[gb317]? = some (.cells #[.int .i64 a1_0, .int .i64 a1_1] 24 (0, 0))) ∧ (w'.heap[s_]? = some (.cells #[.int .i64 0, .int .i64 0] 24 (0, 0))) ∧ (w.heap.size ≤ s_) ∧ (w.heap.size ≤ s_) ∧ (gb316 ≠ s_) ∧ (s_ ≠ gb316) ∧ (gb317 ≠ s_) ∧ (s_ ≠ gb317) ∧ (Below w.heap.size w w')) ?_ ?_
     rotate_left
     ·intro hJ2_5_6
      refine join_ (σ := Nat) 3 #[true, true, true, true, true, true, false, true, false, false] (fun s_ => [(45, .agg #[.int .i64 t320, .int .i64 t321]), (48, .agg #[.int .i64 t322, .int .i64 t323]), (8, .pointer (some ⟨s_, 0, none⟩))]) (fun s_ w' => (w'.cell? ⟨gb316, 0, none⟩ = some (.int .i64 a0_0) ∧ w'.cell? ⟨gb316, 1, none⟩ = some (.int .i64 a0_1) ∧ w'.cell? ⟨gb317, 0, none⟩ = some (.int .i64 a1_0) ∧ w'.cell? ⟨gb317, 1, none⟩ = some (.int .i64 a1_1)) ∧ (w'.heap[gb316]? = some (.cells #[.int .i64 a0_0, .int .i64 a0_1] 24 (0, 0))) ∧ (w'.heap[gb317]? = some (.cells #[.int .i64 a1_0, .int .i64 a1_1] 24 (0, 0))) ∧ (w'.heap[s_]? = some (.cells #[.int .i64 0, .int .i64 0] 24 (0, 0))) ∧ (w.heap.size ≤ s_) ∧ (w.heap.size ≤ s_) ∧ (gb316 ≠ s_) ∧ (s_ ≠ gb316) ∧ (gb317 ≠ s_) ∧ (s_ ≠ gb317) ∧ (Below w.heap.size w w')) ?_ ?_
      rotate_left
      ·intro hJ2_5_7
       refine join_ (σ := Nat × Nat) 3 #[true, true, true, true, true, false, true, true, false, false] (fun s_ => [(45, .agg #[.int .i64 t320, .int .i64 t321]), (7, .pointer (some ⟨s_.1, 0, none⟩)), (8, .pointer (some ⟨s_.2, 0, none⟩))]) (fun s_ w' => (w'.cell? ⟨gb316, 0, none⟩ = some (.int .i64 a0_0) ∧ w'.cell? ⟨gb316, 1, none⟩ = some (.int .i64 a0_1) ∧ w'.cell? ⟨gb317, 0, none⟩ = some (.int .i64 a1_0) ∧ w'.cell? ⟨gb317, 1, none⟩ = some (.int .i64 a1_1)) ∧ (w'.heap[gb316]? = some (.cells #[.int .i64 a0_0, .int .i64 a0_1] 24 (0, 0))) ∧ (w'.heap[gb317]? = some (.cells #[.int .i64 a1_0, .int .i64 a1_1] 24 (0, 0))) ∧ (w'.heap[s_.1]? = some (.cells #[.int .i64 0, .int .i64 0] 24 (0, 0))) ∧ (w'.heap[s_.2]? = some (.cells #[.int .i64 0, .int .i64 0] 24 (0, 0))) ∧ (w.heap.size ≤ s_.1) ∧ (w.heap.size ≤ s_.1) ∧ (gb316 ≠ s_.1) ∧ (s_.1 ≠ gb316) ∧ (gb317 ≠ s_.1) ∧ (s_.1 ≠ gb317) ∧ (s_.2 ≠ s_.1) ∧ (s_.1 ≠ s_.2) ∧ (w.heap.size ≤ s_.2) ∧ (w.heap.size ≤ s_.2) ∧ (gb316 ≠ s_.2) ∧ (s_.2 ≠ gb316) ∧ (gb317 ≠ s_.2) ∧ (s_.2 ≠ gb317) ∧ (Below w.heap.size w w')) ?_ ?_
       rotate_left
       ·intro hJ2_6_7
        refine join_ (σ := Unit) 4 #[true, true, true, true, true, true, false, false, false, false] (fun s_ => [(45, .agg #[.int .i64 t320, .int .i64 t321]), (48, .agg #[.int .i64 t322, .int .i64 t323])]) (fun s_ w' => (w'.cell? ⟨gb316, 0, none⟩ = some (.int .i64 a0_0) ∧ w'.cell? ⟨gb316, 1, none⟩ = some (.int .i64 a0_1) ∧ w'.cell? ⟨gb317, 0, none⟩ = some (.int .i64 a1_0) ∧ w'.cell? ⟨gb317, 1, none⟩ = some (.int .i64 a1_1)) ∧ (w'.heap[gb316]? = some (.cells #[.int .i64 a0_0, .int .i64 a0_1] 24 (0, 0))) ∧ (w'.heap[gb317]? = some (.cells #[.int .i64 a1_0, .int .i64 a1_1] 24 (0, 0))) ∧ (Below w.heap.size w w')) ?_ ?_
        rotate_left
        ·intro hJ2_5
         refine join_ (σ := Nat) 4 #[true, true, true, true, true, false, true, false, false, false] (fun s_ => [(45, .agg #[.int .i64 t320, .int .i64 t321]), (7, .pointer (some ⟨s_, 0, none⟩))]) (fun s_ w' => (w'.cell? ⟨gb316, 0, none⟩ = some (.int .i64 a0_0) ∧ w'.cell? ⟨gb316, 1, none⟩ = some (.int .i64 a0_1) ∧ w'.cell? ⟨gb317, 0, none⟩ = some (.int .i64 a1_0) ∧ w'.cell? ⟨gb317, 1, none⟩ = some (.int .i64 a1_1)) ∧ (w'.heap[gb316]? = some (.cells #[.int .i64 a0_0, .int .i64 a0_1] 24 (0, 0))) ∧ (w'.heap[gb317]? = some (.cells #[.int .i64 a1_0, .int .i64 a1_1] 24 (0, 0))) ∧ (w'.heap[s_]? = some (.cells #[.int .i64 0, .int .i64 0] 24 (0, 0))) ∧ (w.heap.size ≤ s_) ∧ (w.heap.size ≤ s_) ∧ (gb316 ≠ s_) ∧ (s_ ≠ gb316) ∧ (gb317 ≠ s_) ∧ (s_ ≠ gb317) ∧ (Below w.heap.size w w')) ?_ ?_
         rotate_left
         ·intro hJ2_6
          refine join_ (σ := Nat) 4 #[true, true, true, true, true, false, false, true, false, false] (fun s_ => [(45, .agg #[.int .i64 t320, .int .i64 t321]), (8, .pointer (some ⟨s_, 0, none⟩))]) (fun s_ w' => (w'.cell? ⟨gb316, 0, none⟩ = some (.int .i64 a0_0) ∧ w'.cell? ⟨gb316, 1, none⟩ = some (.int .i64 a0_1) ∧ w'.cell? ⟨gb317, 0, none⟩ = some (.int .i64 a1_0) ∧ w'.cell? ⟨gb317, 1, none⟩ = some (.int .i64 a1_1)) ∧ (w'.heap[gb316]? = some (.cells #[.int .i64 a0_0, .int .i64 a0_1] 24 (0, 0))) ∧ (w'.heap[gb317]? = some (.cells #[.int .i64 a1_0, .int .i64 a1_1] 24 (0, 0))) ∧ (w'.heap[s_]? = some (.cells #[.int .i64 0, .int .i64 0] 24 (0, 0))) ∧ (w.heap.size ≤ s_) ∧ (w.heap.size ≤ s_) ∧ (gb316 ≠ s_) ∧ (s_ ≠ gb316) ∧ (gb317 ≠ s_) ∧ (s_ ≠ gb317) ∧ (Below w.heap.size w w')) ?_ ?_
          rotate_left
          ·intro hJ2_7
           refine join_ (σ := Nat × Nat) 4 #[true, true, false, true, true, false, true, true, false, false] (fun s_ => [(7, .pointer (some ⟨s_.1, 0, none⟩)), (8, .pointer (some ⟨s_.2, 0, none⟩))]) (fun s_ w' => (w'.cell? ⟨gb316, 0, none⟩ = some (.int .i64 a0_0) ∧ w'.cell? ⟨gb316, 1, none⟩ = some (.int .i64 a0_1) ∧ w'.cell? ⟨gb317, 0, none⟩ = some (.int .i64 a1_0) ∧ w'.cell? ⟨gb317, 1, none⟩ = some (.int .i64 a1_1)) ∧ (w'.heap[gb316]? = some (.cells #[.int .i64 a0_0, .int .i64 a0_1] 24 (0, 0))) ∧ (w'.heap[gb317]? = some (.cells #[.int .i64 a1_0, .int .i64 a1_1] 24 (0, 0))) ∧ (w'.heap[s_.1]? = some (.cells #[.int .i64 0, .int .i64 0] 24 (0, 0))) ∧ (w'.heap[s_.2]? = some (.cells #[.int .i64 0, .int .i64 0] 24 (0, 0))) ∧ (w.heap.size ≤ s_.1) ∧ (w.heap.size ≤ s_.1) ∧ (gb316 ≠ s_.1) ∧ (s_.1 ≠ gb316) ∧ (gb317 ≠ s_.1) ∧ (s_.1 ≠ gb317) ∧ (s_.2 ≠ s_.1) ∧ (s_.1 ≠ s_.2) ∧ (w.heap.size ≤ s_.2) ∧ (w.heap.size ≤ s_.2) ∧ (gb316 ≠ s_.2) ∧ (s_.2 ≠ gb316) ∧ (gb317 ≠ s_.2) ∧ (s_.2 ≠ gb317) ∧ (Below w.heap.size w w')) ?_ ?_
           rotate_left
           ·intro hJ6_7
            refine join_ (σ := Unit) 5 #[true, true, true, true, true, false, false, false, false, false] (fun s_ => [(45, .agg #[.int .i64 t320, .int .i64 t321])]) (fun s_ w' => (w'.cell? ⟨gb316, 0, none⟩ = some (.int .i64 a0_0) ∧ w'.cell? ⟨gb316, 1, none⟩ = some (.int .i64 a0_1) ∧ w'.cell? ⟨gb317, 0, none⟩ = some (.int .i64 a1_0) ∧ w'.cell? ⟨gb317, 1, none⟩ = some (.int .i64 a1_1)) ∧ (w'.heap[gb316]? = some (.cells #[.int .i64 a0_0, .int .i64 a0_1] 24 (0, 0))) ∧ (w'.heap[gb317]? = some (.cells #[.int .i64 a1_0, .int .i64 a1_1] 24 (0, 0))) ∧ (Below w.heap.size w w')) ?_ ?_
            rotate_left
            ·intro hJ2
             refine join_ (σ := Nat) 5 #[true, true, false, true, true, false, true, false, false, false] (fun s_ => [(7, .pointer (some ⟨s_, 0, none⟩))]) (fun s_ w' => (w'.cell? ⟨gb316, 0, none⟩ = some (.int .i64 a0_0) ∧ w'.cell? ⟨gb316, 1, none⟩ = some (.int .i64 a0_1) ∧ w'.cell? ⟨gb317, 0, none⟩ = some (.int .i64 a1_0) ∧ w'.cell? ⟨gb317, 1, none⟩ = some (.int .i64 a1_1)) ∧ (w'.heap[gb316]? = some (.cells #[.int .i64 a0_0, .int .i64 a0_1] 24 (0, 0))) ∧ (w'.heap[gb317]? = some (.cells #[.int .i64 a1_0, .int .i64 a1_1] 24 (0, 0))) ∧ (w'.heap[s_]? = some (.cells #[.int .i64 0, .int .i64 0] 24 (0, 0))) ∧ (w.heap.size ≤ s_) ∧ (w.heap.size ≤ s_) ∧ (gb316 ≠ s_) ∧ (s_ ≠ gb316) ∧ (gb317 ≠ s_) ∧ (s_ ≠ gb317) ∧ (Below w.heap.size w w')) ?_ ?_
             rotate_left
             ·intro hJ6
              refine join_ (σ := Nat) 5 #[true, true, false, true, true, false, false, true, false, false] (fun s_ => [(8, .pointer (some ⟨s_, 0, none⟩))]) (fun s_ w' => (w'.cell? ⟨gb316, 0, none⟩ = some (.int .i64 a0_0) ∧ w'.cell? ⟨gb316, 1, none⟩ = some (.int .i64 a0_1) ∧ w'.cell? ⟨gb317, 0, none⟩ = some (.int .i64 a1_0) ∧ w'.cell? ⟨gb317, 1, none⟩ = some (.int .i64 a1_1)) ∧ (w'.heap[gb316]? = some (.cells #[.int .i64 a0_0, .int .i64 a0_1] 24 (0, 0))) ∧ (w'.heap[gb317]? = some (.cells #[.int .i64 a1_0, .int .i64 a1_1] 24 (0, 0))) ∧ (w'.heap[s_]? = some (.cells #[.int .i64 0, .int .i64 0] 24 (0, 0))) ∧ (w.heap.size ≤ s_) ∧ (w.heap.size ≤ s_) ∧ (gb316 ≠ s_) ∧ (s_ ≠ gb316) ∧ (gb317 ≠ s_) ∧ (s_ ≠ gb317) ∧ (Below w.heap.size w w')) ?_ ?_
              rotate_left
              ·intro hJ7
               refine three_ (i := 2) (j := 6) (k := 7) (Ni := some 45) (Nj := some 7) (Nk := some 8) #[true, true, true, true, true, false, false, false, false, false] #[true, true, false, true, true, false, true, false, false, false] #[true, true, false, true, true, false, false, true, false, false] rfl rfl rfl rfl rfl rfl (three_of HT_.out (by kernel_rfl)) (by decide) (by decide) (by decide) (fun K hK => ?_) (fun K hK => ?_) (fun K hK => ?_)
               ·skip
                refine goes_ Try.func20 (by kernel_rfl) rfl #[.agg #[.int .i64 a0_0, .int .i64 a0_1], .agg #[.int .i64 a1_0, .int .i64 a1_1]] (by rfl) rfl rfl (by (try simp only [List.map_toArray, List.map_cons, List.map_nil]); first | done | rfl | (simp only [List.length_drop, List.length_take]; rfl)) ?_
                with_reducible refine (impl_RangeBoth.calls a0_0 a0_1 a1_0 a1_1 t320 t321 _ A35.out).mono ?_
                rintro e w40 ⟨rfl, hb⟩
                refine ⟨_, rfl, ?_⟩
                have n0_ := Aside0.mk (blk_below (g := gb316) (o := .cells #[.int .i64 a0_0, .int .i64 a0_1] 24 (0, 0)) (by (with_reducible repeat (first | refine blk_drewN ?_ _ | refine blk_drew ?_ | refine blk_alloc ?_ _)); exact BK316.out) hb)
                have n1_ := Aside0.mk (blk_below (g := gb317) (o := .cells #[.int .i64 a1_0, .int .i64 a1_1] 24 (0, 0)) (by (with_reducible repeat (first | refine blk_drewN ?_ _ | refine blk_drew ?_ | refine blk_alloc ?_ _)); exact BK317.out) hb)
                have n2_ := Aside0.mk (below_step (by repeat (first | (with_reducible first | exact HB.out | apply below_alloc | apply pw_below_drewN | apply below_drew1 | refine below_set ?_ GE316.out | refine below_set ?_ GE317.out) | exact HB.out)) hb)
                clear BK316
                clear BK317
                clear HB
                have BK316 := n0_
                have BK317 := n1_
                have HB := n2_
                clear n0_ n1_ n2_
                (try clear hb)
                (try clear hb2)
                (try clear hk)
                (try clear hi)
                refine hK.out _ _ ⟨(blk_cell BK316.out 0).trans rfl, (blk_cell BK316.out 1).trans rfl, (blk_cell BK317.out 0).trans rfl, (blk_cell BK317.out 1).trans rfl⟩ (fun hHeld => ?_)
                clear hK K
                refine norm_ (a' := ?_) ?_ ?_
                rotate_left
                ·show Act.put _ (some 45) _ = _
                 simp only [Act.put, List.setIfInBounds_toArray, List.set_cons_zero, List.set_cons_succ, i64_w, i32_w]
                 rfl
                exact norm_ (by first | (simp only [putAll, Act.put, List.setIfInBounds_toArray, List.set_cons_zero, List.set_cons_succ]; done) | (simp only [putAll, Act.put, List.setIfInBounds_toArray, List.set_cons_zero, List.set_cons_succ]; rfl)) (hJ2 () _ ⟨hHeld, (by (with_reducible repeat (first | refine blk_drewN ?_ _ | refine blk_drew ?_ | refine blk_alloc ?_ _)); exact BK316.out), (by (with_reducible repeat (first | refine blk_drewN ?_ _ | refine blk_drew ?_ | refine blk_alloc ?_ _)); exact BK317.out), (by repeat (first | (with_reducible first | exact HB.out | apply below_alloc | apply pw_below_drewN | apply below_drew1 | refine below_set ?_ GE316.out | refine below_set ?_ GE317.out) | exact HB.out))⟩)
               ·skip
                refine box_step ?hg (N := 7) ?hd (cs := #[.int .i64 0, .int .i64 0]) (t := 24) ?hr ?_; (case hd => rfl); (case hg => rfl); (case hr => first | (go_simp; done) | (go_simp; rfl))
                intro gb324 hg w40 hbox hb
                have n0_ := Aside0.mk (blk_below (g := gb316) (o := .cells #[.int .i64 a0_0, .int .i64 a0_1] 24 (0, 0)) (by (with_reducible repeat (first | refine blk_drewN ?_ _ | refine blk_drew ?_ | refine blk_alloc ?_ _)); exact BK316.out) hb)
                have n1_ := Aside0.mk (blk_below (g := gb317) (o := .cells #[.int .i64 a1_0, .int .i64 a1_1] 24 (0, 0)) (by (with_reducible repeat (first | refine blk_drewN ?_ _ | refine blk_drew ?_ | refine blk_alloc ?_ _)); exact BK317.out) hb)
                have n2_ := Aside0.mk (below_step (by repeat (first | (with_reducible first | exact HB.out | apply below_alloc | apply pw_below_drewN | apply below_drew1 | refine below_set ?_ GE316.out | refine below_set ?_ GE317.out) | exact HB.out)) hb)
                have n3_ := Aside0.mk (hbox)
                have n4_ := Aside0.mk ((by rw [hg]; exact (below_size (by repeat (first | (with_reducible first | exact HB.out | apply below_alloc | apply pw_below_drewN | apply below_drew1 | refine below_set ?_ GE316.out | refine below_set ?_ GE317.out) | exact HB.out))) : w.heap.size ≤ gb324))
                have n5_ := Aside0.mk ((by rw [hg]; exact (below_size (by repeat (first | (with_reducible first | exact HB.out | apply below_alloc | apply pw_below_drewN | apply below_drew1 | refine below_set ?_ GE316.out | refine below_set ?_ GE317.out) | exact HB.out))) : w.heap.size ≤ gb324))
                have n6_ := Aside0.mk ((by rw [hg]; exact Nat.ne_of_lt (blk_lt (g := gb316) (o := .cells #[.int .i64 a0_0, .int .i64 a0_1] 24 (0, 0)) (by (with_reducible repeat (first | refine blk_drewN ?_ _ | refine blk_drew ?_ | refine blk_alloc ?_ _)); exact BK316.out)) : gb316 ≠ gb324))
                have n7_ := Aside0.mk ((by rw [hg]; exact Nat.ne_of_gt (blk_lt (g := gb316) (o := .cells #[.int .i64 a0_0, .int .i64 a0_1] 24 (0, 0)) (by (with_reducible repeat (first | refine blk_drewN ?_ _ | refine blk_drew ?_ | refine blk_alloc ?_ _)); exact BK316.out)) : gb324 ≠ gb316))
                have n8_ := Aside0.mk ((by rw [hg]; exact Nat.ne_of_lt (blk_lt (g := gb317) (o := .cells #[.int .i64 a1_0, .int .i64 a1_1] 24 (0, 0)) (by (with_reducible repeat (first | refine blk_drewN ?_ _ | refine blk_drew ?_ | refine blk_alloc ?_ _)); exact BK317.out)) : gb317 ≠ gb324))
                have n9_ := Aside0.mk ((by rw [hg]; exact Nat.ne_of_gt (blk_lt (g := gb317) (o := .cells #[.int .i64 a1_0, .int .i64 a1_1] 24 (0, 0)) (by (with_reducible repeat (first | refine blk_drewN ?_ _ | refine blk_drew ?_ | refine blk_alloc ?_ _)); exact BK317.out)) : gb324 ≠ gb317))
                clear BK316
                clear BK317
                clear HB
                have BK316 := n0_
                have BK317 := n1_
                have HB := n2_
                have BK324 := n3_
                have GW324 := n4_
                have GE324 := n5_
                have NB316_324 := n6_
                have NB324_316 := n7_
                have NB317_324 := n8_
                have NB324_317 := n9_
                clear n0_ n1_ n2_ n3_ n4_ n5_ n6_ n7_ n8_ n9_
                clear hb hbox hg
                refine hK.out _ _ ⟨(blk_cell BK316.out 0).trans rfl, (blk_cell BK316.out 1).trans rfl, (blk_cell BK317.out 0).trans rfl, (blk_cell BK317.out 1).trans rfl⟩ (fun hHeld => ?_)
                clear hK K
                refine norm_ (a' := ?_) ?_ ?_
                rotate_left
                ·show Act.put _ (some 7) _ = _
                 simp only [Act.put, List.setIfInBounds_toArray, List.set_cons_zero, List.set_cons_succ, i64_w, i32_w]
                 rfl
                exact norm_ (by first | (simp only [putAll, Act.put, List.setIfInBounds_toArray, List.set_cons_zero, List.set_cons_succ]; done) | (simp only [putAll, Act.put, List.setIfInBounds_toArray, List.set_cons_zero, List.set_cons_succ]; rfl)) (hJ6 (gb324) _ ⟨hHeld, (by (with_reducible repeat (first | refine blk_drewN ?_ _ | refine blk_drew ?_ | refine blk_alloc ?_ _)); exact BK316.out), (by (with_reducible repeat (first | refine blk_drewN ?_ _ | refine blk_drew ?_ | refine blk_alloc ?_ _)); exact BK317.out), (by (with_reducible repeat (first | refine blk_drewN ?_ _ | refine blk_drew ?_ | refine blk_alloc ?_ _)); exact BK324.out), GW324.out, GE324.out, NB316_324.out, NB324_316.out, NB317_324.out, NB324_317.out, (by repeat (first | (with_reducible first | exact HB.out | apply below_alloc | apply pw_below_drewN | apply below_drew1 | refine below_set ?_ GE316.out | refine below_set ?_ GE317.out | refine below_set ?_ GE324.out) | exact HB.out))⟩)
               ·skip
                refine box_step ?hg (N := 8) ?hd (cs := #[.int .i64 0, .int .i64 0]) (t := 24) ?hr ?_; (case hd => rfl); (case hg => rfl); (case hr => first | (go_simp; done) | (go_simp; rfl))
                intro gb325 hg w40 hbox hb
                have n0_ := Aside0.mk (blk_below (g := gb316) (o := .cells #[.int .i64 a0_0, .int .i64 a0_1] 24 (0, 0)) (by (with_reducible repeat (first | refine blk_drewN ?_ _ | refine blk_drew ?_ | refine blk_alloc ?_ _)); exact BK316.out) hb)
                have n1_ := Aside0.mk (blk_below (g := gb317) (o := .cells #[.int .i64 a1_0, .int .i64 a1_1] 24 (0, 0)) (by (with_reducible repeat (first | refine blk_drewN ?_ _ | refine blk_drew ?_ | refine blk_alloc ?_ _)); exact BK317.out) hb)
                have n2_ := Aside0.mk (below_step (by repeat (first | (with_reducible first | exact HB.out | apply below_alloc | apply pw_below_drewN | apply below_drew1 | refine below_set ?_ GE316.out | refine below_set ?_ GE317.out) | exact HB.out)) hb)
                have n3_ := Aside0.mk (hbox)
                have n4_ := Aside0.mk ((by rw [hg]; exact (below_size (by repeat (first | (with_reducible first | exact HB.out | apply below_alloc | apply pw_below_drewN | apply below_drew1 | refine below_set ?_ GE316.out | refine below_set ?_ GE317.out) | exact HB.out))) : w.heap.size ≤ gb325))
                have n5_ := Aside0.mk ((by rw [hg]; exact (below_size (by repeat (first | (with_reducible first | exact HB.out | apply below_alloc | apply pw_below_drewN | apply below_drew1 | refine below_set ?_ GE316.out | refine below_set ?_ GE317.out) | exact HB.out))) : w.heap.size ≤ gb325))
                have n6_ := Aside0.mk ((by rw [hg]; exact Nat.ne_of_lt (blk_lt (g := gb316) (o := .cells #[.int .i64 a0_0, .int .i64 a0_1] 24 (0, 0)) (by (with_reducible repeat (first | refine blk_drewN ?_ _ | refine blk_drew ?_ | refine blk_alloc ?_ _)); exact BK316.out)) : gb316 ≠ gb325))
                have n7_ := Aside0.mk ((by rw [hg]; exact Nat.ne_of_gt (blk_lt (g := gb316) (o := .cells #[.int .i64 a0_0, .int .i64 a0_1] 24 (0, 0)) (by (with_reducible repeat (first | refine blk_drewN ?_ _ | refine blk_drew ?_ | refine blk_alloc ?_ _)); exact BK316.out)) : gb325 ≠ gb316))
                have n8_ := Aside0.mk ((by rw [hg]; exact Nat.ne_of_lt (blk_lt (g := gb317) (o := .cells #[.int .i64 a1_0, .int .i64 a1_1] 24 (0, 0)) (by (with_reducible repeat (first | refine blk_drewN ?_ _ | refine blk_drew ?_ | refine blk_alloc ?_ _)); exact BK317.out)) : gb317 ≠ gb325))
                have n9_ := Aside0.mk ((by rw [hg]; exact Nat.ne_of_gt (blk_lt (g := gb317) (o := .cells #[.int .i64 a1_0, .int .i64 a1_1] 24 (0, 0)) (by (with_reducible repeat (first | refine blk_drewN ?_ _ | refine blk_drew ?_ | refine blk_alloc ?_ _)); exact BK317.out)) : gb325 ≠ gb317))
                clear BK316
                clear BK317
                clear HB
                have BK316 := n0_
                have BK317 := n1_
                have HB := n2_
                have BK325 := n3_
                have GW325 := n4_
                have GE325 := n5_
                have NB316_325 := n6_
                have NB325_316 := n7_
                have NB317_325 := n8_
                have NB325_317 := n9_
                clear n0_ n1_ n2_ n3_ n4_ n5_ n6_ n7_ n8_ n9_
                clear hb hbox hg
                refine hK.out _ _ ⟨(blk_cell BK316.out 0).trans rfl, (blk_cell BK316.out 1).trans rfl, (blk_cell BK317.out 0).trans rfl, (blk_cell BK317.out 1).trans rfl⟩ (fun hHeld => ?_)
                clear hK K
                refine norm_ (a' := ?_) ?_ ?_
                rotate_left
                ·show Act.put _ (some 8) _ = _
                 simp only [Act.put, List.setIfInBounds_toArray, List.set_cons_zero, List.set_cons_succ, i64_w, i32_w]
                 rfl
                exact norm_ (by first | (simp only [putAll, Act.put, List.setIfInBounds_toArray, List.set_cons_zero, List.set_cons_succ]; done) | (simp only [putAll, Act.put, List.setIfInBounds_toArray, List.set_cons_zero, List.set_cons_succ]; rfl)) (hJ7 (gb325) _ ⟨hHeld, (by (with_reducible repeat (first | refine blk_drewN ?_ _ | refine blk_drew ?_ | refine blk_alloc ?_ _)); exact BK316.out), (by (with_reducible repeat (first | refine blk_drewN ?_ _ | refine blk_drew ?_ | refine blk_alloc ?_ _)); exact BK317.out), (by (with_reducible repeat (first | refine blk_drewN ?_ _ | refine blk_drew ?_ | refine blk_alloc ?_ _)); exact BK325.out), GW325.out, GE325.out, NB316_325.out, NB325_316.out, NB317_325.out, NB325_317.out, (by repeat (first | (with_reducible first | exact HB.out | apply below_alloc | apply pw_below_drewN | apply below_drew1 | refine below_set ?_ GE316.out | refine below_set ?_ GE317.out | refine below_set ?_ GE325.out) | exact HB.out))⟩)
              ·skip
               rintro gb325 w41 ⟨hS_, h0_, h1_, h2_, h3_, h4_, h5_, h6_, h7_, h8_, h9_⟩
               have n0_ : Aside0 (w41.heap[gb316]? = some (.cells #[.int .i64 a0_0, .int .i64 a0_1] 24 (0, 0))) := ⟨h0_⟩
               have n1_ : Aside0 (w41.heap[gb317]? = some (.cells #[.int .i64 a1_0, .int .i64 a1_1] 24 (0, 0))) := ⟨h1_⟩
               have n2_ : Aside0 (w41.heap[gb325]? = some (.cells #[.int .i64 0, .int .i64 0] 24 (0, 0))) := ⟨h2_⟩
               have n3_ : Aside0 (w.heap.size ≤ gb325) := ⟨h3_⟩
               have n4_ : Aside0 (w.heap.size ≤ gb325) := ⟨h4_⟩
               have n5_ : Aside0 (gb316 ≠ gb325) := ⟨h5_⟩
               have n6_ : Aside0 (gb325 ≠ gb316) := ⟨h6_⟩
               have n7_ : Aside0 (gb317 ≠ gb325) := ⟨h7_⟩
               have n8_ : Aside0 (gb325 ≠ gb317) := ⟨h8_⟩
               have n9_ : Aside0 (Below w.heap.size w w41) := ⟨h9_⟩
               clear BK316
               clear BK317
               clear HB
               clear h0_ h1_ h2_ h3_ h4_ h5_ h6_ h7_ h8_ h9_
               have BK316 := n0_
               have BK317 := n1_
               have BK325 := n2_
               have GW325 := n3_
               have GE325 := n4_
               have NB316_325 := n5_
               have NB325_316 := n6_
               have NB317_325 := n7_
               have NB325_317 := n8_
               have HB := n9_
               clear n0_ n1_ n2_ n3_ n4_ n5_ n6_ n7_ n8_ n9_
               have hHeld : w41.cell? ⟨gb316, 0, none⟩ = some (.int .i64 a0_0) ∧ w41.cell? ⟨gb316, 1, none⟩ = some (.int .i64 a0_1) ∧ w41.cell? ⟨gb317, 0, none⟩ = some (.int .i64 a1_0) ∧ w41.cell? ⟨gb317, 1, none⟩ = some (.int .i64 a1_1) := hS_
               refine norm_ (a' := ?_) ?_ ?_
               rotate_left
               ·simp only [putAll, Act.put, List.setIfInBounds_toArray, List.set_cons_zero, List.set_cons_succ]
                rfl
               refine two_ (i := 2) (j := 6) (Ni := some 45) (Nj := some 7) #[true, true, true, true, true, false, false, true, false, false] #[true, true, false, true, true, false, true, true, false, false] rfl rfl rfl rfl (two_of HT_.out (by kernel_rfl)) (by decide) (by decide) (fun K hK => ?_) (fun K hK => ?_)
               ·skip
                refine goes_ Try.func20 (by kernel_rfl) rfl #[.agg #[.int .i64 a0_0, .int .i64 a0_1], .agg #[.int .i64 a1_0, .int .i64 a1_1]] (by rfl) rfl rfl (by (try simp only [List.map_toArray, List.map_cons, List.map_nil]); first | done | rfl | (simp only [List.length_drop, List.length_take]; rfl)) ?_
                with_reducible refine (impl_RangeBoth.calls a0_0 a0_1 a1_0 a1_1 t320 t321 _ A35.out).mono ?_
                rintro e w42 ⟨rfl, hb⟩
                refine ⟨_, rfl, ?_⟩
                have n0_ := Aside0.mk (blk_below (g := gb316) (o := .cells #[.int .i64 a0_0, .int .i64 a0_1] 24 (0, 0)) (by (with_reducible repeat (first | refine blk_drewN ?_ _ | refine blk_drew ?_ | refine blk_alloc ?_ _)); exact BK316.out) hb)
                have n1_ := Aside0.mk (blk_below (g := gb317) (o := .cells #[.int .i64 a1_0, .int .i64 a1_1] 24 (0, 0)) (by (with_reducible repeat (first | refine blk_drewN ?_ _ | refine blk_drew ?_ | refine blk_alloc ?_ _)); exact BK317.out) hb)
                have n2_ := Aside0.mk (blk_below (g := gb325) (o := .cells #[.int .i64 0, .int .i64 0] 24 (0, 0)) (by (with_reducible repeat (first | refine blk_drewN ?_ _ | refine blk_drew ?_ | refine blk_alloc ?_ _)); exact BK325.out) hb)
                have n3_ := Aside0.mk (below_step (by repeat (first | (with_reducible first | exact HB.out | apply below_alloc | apply pw_below_drewN | apply below_drew1 | refine below_set ?_ GE316.out | refine below_set ?_ GE317.out | refine below_set ?_ GE325.out) | exact HB.out)) hb)
                clear BK316
                clear BK317
                clear BK325
                clear HB
                have BK316 := n0_
                have BK317 := n1_
                have BK325 := n2_
                have HB := n3_
                clear n0_ n1_ n2_ n3_
                (try clear hb)
                (try clear hb2)
                (try clear hk)
                (try clear hi)
                refine hK.out _ _ ⟨(blk_cell BK316.out 0).trans rfl, (blk_cell BK316.out 1).trans rfl, (blk_cell BK317.out 0).trans rfl, (blk_cell BK317.out 1).trans rfl⟩ (fun hHeld => ?_)
                clear hK K
                refine norm_ (a' := ?_) ?_ ?_
                rotate_left
                ·show Act.put _ (some 45) _ = _
                 simp only [Act.put, List.setIfInBounds_toArray, List.set_cons_zero, List.set_cons_succ, i64_w, i32_w]
                 rfl
                exact norm_ (by first | (simp only [putAll, Act.put, List.setIfInBounds_toArray, List.set_cons_zero, List.set_cons_succ]; done) | (simp only [putAll, Act.put, List.setIfInBounds_toArray, List.set_cons_zero, List.set_cons_succ]; rfl)) (hJ2_7 (gb325) _ ⟨hHeld, (by (with_reducible repeat (first | refine blk_drewN ?_ _ | refine blk_drew ?_ | refine blk_alloc ?_ _)); exact BK316.out), (by (with_reducible repeat (first | refine blk_drewN ?_ _ | refine blk_drew ?_ | refine blk_alloc ?_ _)); exact BK317.out), (by (with_reducible repeat (first | refine blk_drewN ?_ _ | refine blk_drew ?_ | refine blk_alloc ?_ _)); exact BK325.out), GW325.out, GE325.out, NB316_325.out, NB325_316.out, NB317_325.out, NB325_317.out, (by repeat (first | (with_reducible first | exact HB.out | apply below_alloc | apply pw_below_drewN | apply below_drew1 | refine below_set ?_ GE316.out | refine below_set ?_ GE317.out | refine below_set ?_ GE325.out) | exact HB.out))⟩)
               ·skip
                refine box_step ?hg (N := 7) ?hd (cs := #[.int .i64 0, .int .i64 0]) (t := 24) ?hr ?_; (case hd => rfl); (case hg => rfl); (case hr => first | (go_simp; done) | (go_simp; rfl))
                intro gb324 hg w42 hbox hb
                have n0_ := Aside0.mk (blk_below (g := gb316) (o := .cells #[.int .i64 a0_0, .int .i64 a0_1] 24 (0, 0)) (by (with_reducible repeat (first | refine blk_drewN ?_ _ | refine blk_drew ?_ | refine blk_alloc ?_ _)); exact BK316.out) hb)
                have n1_ := Aside0.mk (blk_below (g := gb317) (o := .cells #[.int .i64 a1_0, .int .i64 a1_1] 24 (0, 0)) (by (with_reducible repeat (first | refine blk_drewN ?_ _ | refine blk_drew ?_ | refine blk_alloc ?_ _)); exact BK317.out) hb)
                have n2_ := Aside0.mk (blk_below (g := gb325) (o := .cells #[.int .i64 0, .int .i64 0] 24 (0, 0)) (by (with_reducible repeat (first | refine blk_drewN ?_ _ | refine blk_drew ?_ | refine blk_alloc ?_ _)); exact BK325.out) hb)
                have n3_ := Aside0.mk (below_step (by repeat (first | (with_reducible first | exact HB.out | apply below_alloc | apply pw_below_drewN | apply below_drew1 | refine below_set ?_ GE316.out | refine below_set ?_ GE317.out | refine below_set ?_ GE325.out) | exact HB.out)) hb)
                have n4_ := Aside0.mk (hbox)
                have n5_ := Aside0.mk ((by rw [hg]; exact (below_size (by repeat (first | (with_reducible first | exact HB.out | apply below_alloc | apply pw_below_drewN | apply below_drew1 | refine below_set ?_ GE316.out | refine below_set ?_ GE317.out | refine below_set ?_ GE325.out) | exact HB.out))) : w.heap.size ≤ gb324))
                have n6_ := Aside0.mk ((by rw [hg]; exact (below_size (by repeat (first | (with_reducible first | exact HB.out | apply below_alloc | apply pw_below_drewN | apply below_drew1 | refine below_set ?_ GE316.out | refine below_set ?_ GE317.out | refine below_set ?_ GE325.out) | exact HB.out))) : w.heap.size ≤ gb324))
                have n7_ := Aside0.mk ((by rw [hg]; exact Nat.ne_of_lt (blk_lt (g := gb316) (o := .cells #[.int .i64 a0_0, .int .i64 a0_1] 24 (0, 0)) (by (with_reducible repeat (first | refine blk_drewN ?_ _ | refine blk_drew ?_ | refine blk_alloc ?_ _)); exact BK316.out)) : gb316 ≠ gb324))
                have n8_ := Aside0.mk ((by rw [hg]; exact Nat.ne_of_gt (blk_lt (g := gb316) (o := .cells #[.int .i64 a0_0, .int .i64 a0_1] 24 (0, 0)) (by (with_reducible repeat (first | refine blk_drewN ?_ _ | refine blk_drew ?_ | refine blk_alloc ?_ _)); exact BK316.out)) : gb324 ≠ gb316))
                have n9_ := Aside0.mk ((by rw [hg]; exact Nat.ne_of_lt (blk_lt (g := gb317) (o := .cells #[.int .i64 a1_0, .int .i64 a1_1] 24 (0, 0)) (by (with_reducible repeat (first | refine blk_drewN ?_ _ | refine blk_drew ?_ | refine blk_alloc ?_ _)); exact BK317.out)) : gb317 ≠ gb324))
                have n10_ := Aside0.mk ((by rw [hg]; exact Nat.ne_of_gt (blk_lt (g := gb317) (o := .cells #[.int .i64 a1_0, .int .i64 a1_1] 24 (0, 0)) (by (with_reducible repeat (first | refine blk_drewN ?_ _ | refine blk_drew ?_ | refine blk_alloc ?_ _)); exact BK317.out)) : gb324 ≠ gb317))
                have n11_ := Aside0.mk ((by rw [hg]; exact Nat.ne_of_lt (blk_lt (g := gb325) (o := .cells #[.int .i64 0, .int .i64 0] 24 (0, 0)) (by (with_reducible repeat (first | refine blk_drewN ?_ _ | refine blk_drew ?_ | refine blk_alloc ?_ _)); exact BK325.out)) : gb325 ≠ gb324))
                have n12_ := Aside0.mk ((by rw [hg]; exact Nat.ne_of_gt (blk_lt (g := gb325) (o := .cells #[.int .i64 0, .int .i64 0] 24 (0, 0)) (by (with_reducible repeat (first | refine blk_drewN ?_ _ | refine blk_drew ?_ | refine blk_alloc ?_ _)); exact BK325.out)) : gb324 ≠ gb325))
                clear BK316
                clear BK317
                clear BK325
                clear HB
                have BK316 := n0_
                have BK317 := n1_
                have BK325 := n2_
                have HB := n3_
                have BK324 := n4_
                have GW324 := n5_
                have GE324 := n6_
                have NB316_324 := n7_
                have NB324_316 := n8_
                have NB317_324 := n9_
                have NB324_317 := n10_
                have NB325_324 := n11_
                have NB324_325 := n12_
                clear n0_ n1_ n2_ n3_ n4_ n5_ n6_ n7_ n8_ n9_ n10_ n11_ n12_
                clear hb hbox hg
                refine hK.out _ _ ⟨(blk_cell BK316.out 0).trans rfl, (blk_cell BK316.out 1).trans rfl, (blk_cell BK317.out 0).trans rfl, (blk_cell BK317.out 1).trans rfl⟩ (fun hHeld => ?_)
                clear hK K
                refine norm_ (a' := ?_) ?_ ?_
                rotate_left
                ·show Act.put _ (some 7) _ = _
                 simp only [Act.put, List.setIfInBounds_toArray, List.set_cons_zero, List.set_cons_succ, i64_w, i32_w]
                 rfl
                exact norm_ (by first | (simp only [putAll, Act.put, List.setIfInBounds_toArray, List.set_cons_zero, List.set_cons_succ]; done) | (simp only [putAll, Act.put, List.setIfInBounds_toArray, List.set_cons_zero, List.set_cons_succ]; rfl)) (hJ6_7 (gb324, gb325) _ ⟨hHeld, (by (with_reducible repeat (first | refine blk_drewN ?_ _ | refine blk_drew ?_ | refine blk_alloc ?_ _)); exact BK316.out), (by (with_reducible repeat (first | refine blk_drewN ?_ _ | refine blk_drew ?_ | refine blk_alloc ?_ _)); exact BK317.out), (by (with_reducible repeat (first | refine blk_drewN ?_ _ | refine blk_drew ?_ | refine blk_alloc ?_ _)); exact BK324.out), (by (with_reducible repeat (first | refine blk_drewN ?_ _ | refine blk_drew ?_ | refine blk_alloc ?_ _)); exact BK325.out), GW324.out, GE324.out, NB316_324.out, NB324_316.out, NB317_324.out, NB324_317.out, NB325_324.out, NB324_325.out, GW325.out, GE325.out, NB316_325.out, NB325_316.out, NB317_325.out, NB325_317.out, (by repeat (first | (with_reducible first | exact HB.out | apply below_alloc | apply pw_below_drewN | apply below_drew1 | refine below_set ?_ GE316.out | refine below_set ?_ GE317.out | refine below_set ?_ GE325.out | refine below_set ?_ GE324.out) | exact HB.out))⟩)
             ·skip
              rintro gb324 w41 ⟨hS_, h0_, h1_, h2_, h3_, h4_, h5_, h6_, h7_, h8_, h9_⟩
              have n0_ : Aside0 (w41.heap[gb316]? = some (.cells #[.int .i64 a0_0, .int .i64 a0_1] 24 (0, 0))) := ⟨h0_⟩
              have n1_ : Aside0 (w41.heap[gb317]? = some (.cells #[.int .i64 a1_0, .int .i64 a1_1] 24 (0, 0))) := ⟨h1_⟩
              have n2_ : Aside0 (w41.heap[gb324]? = some (.cells #[.int .i64 0, .int .i64 0] 24 (0, 0))) := ⟨h2_⟩
              have n3_ : Aside0 (w.heap.size ≤ gb324) := ⟨h3_⟩
              have n4_ : Aside0 (w.heap.size ≤ gb324) := ⟨h4_⟩
              have n5_ : Aside0 (gb316 ≠ gb324) := ⟨h5_⟩
              have n6_ : Aside0 (gb324 ≠ gb316) := ⟨h6_⟩
              have n7_ : Aside0 (gb317 ≠ gb324) := ⟨h7_⟩
              have n8_ : Aside0 (gb324 ≠ gb317) := ⟨h8_⟩
              have n9_ : Aside0 (Below w.heap.size w w41) := ⟨h9_⟩
              clear BK316
              clear BK317
              clear HB
              clear h0_ h1_ h2_ h3_ h4_ h5_ h6_ h7_ h8_ h9_
              have BK316 := n0_
              have BK317 := n1_
              have BK324 := n2_
              have GW324 := n3_
              have GE324 := n4_
              have NB316_324 := n5_
              have NB324_316 := n6_
              have NB317_324 := n7_
              have NB324_317 := n8_
              have HB := n9_
              clear n0_ n1_ n2_ n3_ n4_ n5_ n6_ n7_ n8_ n9_
              have hHeld : w41.cell? ⟨gb316, 0, none⟩ = some (.int .i64 a0_0) ∧ w41.cell? ⟨gb316, 1, none⟩ = some (.int .i64 a0_1) ∧ w41.cell? ⟨gb317, 0, none⟩ = some (.int .i64 a1_0) ∧ w41.cell? ⟨gb317, 1, none⟩ = some (.int .i64 a1_1) := hS_
              refine norm_ (a' := ?_) ?_ ?_
              rotate_left
              ·simp only [putAll, Act.put, List.setIfInBounds_toArray, List.set_cons_zero, List.set_cons_succ]
               rfl
              refine two_ (i := 2) (j := 7) (Ni := some 45) (Nj := some 8) #[true, true, true, true, true, false, true, false, false, false] #[true, true, false, true, true, false, true, true, false, false] rfl rfl rfl rfl (two_of HT_.out (by kernel_rfl)) (by decide) (by decide) (fun K hK => ?_) (fun K hK => ?_)
              ·skip
               refine goes_ Try.func20 (by kernel_rfl) rfl #[.agg #[.int .i64 a0_0, .int .i64 a0_1], .agg #[.int .i64 a1_0, .int .i64 a1_1]] (by rfl) rfl rfl (by (try simp only [List.map_toArray, List.map_cons, List.map_nil]); first | done | rfl | (simp only [List.length_drop, List.length_take]; rfl)) ?_
               with_reducible refine (impl_RangeBoth.calls a0_0 a0_1 a1_0 a1_1 t320 t321 _ A35.out).mono ?_
               rintro e w42 ⟨rfl, hb⟩
               refine ⟨_, rfl, ?_⟩
               have n0_ := Aside0.mk (blk_below (g := gb316) (o := .cells #[.int .i64 a0_0, .int .i64 a0_1] 24 (0, 0)) (by (with_reducible repeat (first | refine blk_drewN ?_ _ | refine blk_drew ?_ | refine blk_alloc ?_ _)); exact BK316.out) hb)
               have n1_ := Aside0.mk (blk_below (g := gb317) (o := .cells #[.int .i64 a1_0, .int .i64 a1_1] 24 (0, 0)) (by (with_reducible repeat (first | refine blk_drewN ?_ _ | refine blk_drew ?_ | refine blk_alloc ?_ _)); exact BK317.out) hb)
               have n2_ := Aside0.mk (blk_below (g := gb324) (o := .cells #[.int .i64 0, .int .i64 0] 24 (0, 0)) (by (with_reducible repeat (first | refine blk_drewN ?_ _ | refine blk_drew ?_ | refine blk_alloc ?_ _)); exact BK324.out) hb)
               have n3_ := Aside0.mk (below_step (by repeat (first | (with_reducible first | exact HB.out | apply below_alloc | apply pw_below_drewN | apply below_drew1 | refine below_set ?_ GE316.out | refine below_set ?_ GE317.out | refine below_set ?_ GE324.out) | exact HB.out)) hb)
               clear BK316
               clear BK317
               clear BK324
               clear HB
               have BK316 := n0_
               have BK317 := n1_
               have BK324 := n2_
               have HB := n3_
               clear n0_ n1_ n2_ n3_
               (try clear hb)
               (try clear hb2)
               (try clear hk)
               (try clear hi)
               refine hK.out _ _ ⟨(blk_cell BK316.out 0).trans rfl, (blk_cell BK316.out 1).trans rfl, (blk_cell BK317.out 0).trans rfl, (blk_cell BK317.out 1).trans rfl⟩ (fun hHeld => ?_)
               clear hK K
               refine norm_ (a' := ?_) ?_ ?_
               rotate_left
               ·show Act.put _ (some 45) _ = _
                simp only [Act.put, List.setIfInBounds_toArray, List.set_cons_zero, List.set_cons_succ, i64_w, i32_w]
                rfl
               exact norm_ (by first | (simp only [putAll, Act.put, List.setIfInBounds_toArray, List.set_cons_zero, List.set_cons_succ]; done) | (simp only [putAll, Act.put, List.setIfInBounds_toArray, List.set_cons_zero, List.set_cons_succ]; rfl)) (hJ2_6 (gb324) _ ⟨hHeld, (by (with_reducible repeat (first | refine blk_drewN ?_ _ | refine blk_drew ?_ | refine blk_alloc ?_ _)); exact BK316.out), (by (with_reducible repeat (first | refine blk_drewN ?_ _ | refine blk_drew ?_ | refine blk_alloc ?_ _)); exact BK317.out), (by (with_reducible repeat (first | refine blk_drewN ?_ _ | refine blk_drew ?_ | refine blk_alloc ?_ _)); exact BK324.out), GW324.out, GE324.out, NB316_324.out, NB324_316.out, NB317_324.out, NB324_317.out, (by repeat (first | (with_reducible first | exact HB.out | apply below_alloc | apply pw_below_drewN | apply below_drew1 | refine below_set ?_ GE316.out | refine below_set ?_ GE317.out | refine below_set ?_ GE324.out) | exact HB.out))⟩)
              ·skip
               refine box_step ?hg (N := 8) ?hd (cs := #[.int .i64 0, .int .i64 0]) (t := 24) ?hr ?_; (case hd => rfl); (case hg => rfl); (case hr => first | (go_simp; done) | (go_simp; rfl))
               intro gb325 hg w42 hbox hb
               have n0_ := Aside0.mk (blk_below (g := gb316) (o := .cells #[.int .i64 a0_0, .int .i64 a0_1] 24 (0, 0)) (by (with_reducible repeat (first | refine blk_drewN ?_ _ | refine blk_drew ?_ | refine blk_alloc ?_ _)); exact BK316.out) hb)
               have n1_ := Aside0.mk (blk_below (g := gb317) (o := .cells #[.int .i64 a1_0, .int .i64 a1_1] 24 (0, 0)) (by (with_reducible repeat (first | refine blk_drewN ?_ _ | refine blk_drew ?_ | refine blk_alloc ?_ _)); exact BK317.out) hb)
               have n2_ := Aside0.mk (blk_below (g := gb324) (o := .cells #[.int .i64 0, .int .i64 0] 24 (0, 0)) (by (with_reducible repeat (first | refine blk_drewN ?_ _ | refine blk_drew ?_ | refine blk_alloc ?_ _)); exact BK324.out) hb)
               have n3_ := Aside0.mk (below_step (by repeat (first | (with_reducible first | exact HB.out | apply below_alloc | apply pw_below_drewN | apply below_drew1 | refine below_set ?_ GE316.out | refine below_set ?_ GE317.out | refine below_set ?_ GE324.out) | exact HB.out)) hb)
               have n4_ := Aside0.mk (hbox)
               have n5_ := Aside0.mk ((by rw [hg]; exact (below_size (by repeat (first | (with_reducible first | exact HB.out | apply below_alloc | apply pw_below_drewN | apply below_drew1 | refine below_set ?_ GE316.out | refine below_set ?_ GE317.out | refine below_set ?_ GE324.out) | exact HB.out))) : w.heap.size ≤ gb325))
               have n6_ := Aside0.mk ((by rw [hg]; exact (below_size (by repeat (first | (with_reducible first | exact HB.out | apply below_alloc | apply pw_below_drewN | apply below_drew1 | refine below_set ?_ GE316.out | refine below_set ?_ GE317.out | refine below_set ?_ GE324.out) | exact HB.out))) : w.heap.size ≤ gb325))
               have n7_ := Aside0.mk ((by rw [hg]; exact Nat.ne_of_lt (blk_lt (g := gb316) (o := .cells #[.int .i64 a0_0, .int .i64 a0_1] 24 (0, 0)) (by (with_reducible repeat (first | refine blk_drewN ?_ _ | refine blk_drew ?_ | refine blk_alloc ?_ _)); exact BK316.out)) : gb316 ≠ gb325))
               have n8_ := Aside0.mk ((by rw [hg]; exact Nat.ne_of_gt (blk_lt (g := gb316) (o := .cells #[.int .i64 a0_0, .int .i64 a0_1] 24 (0, 0)) (by (with_reducible repeat (first | refine blk_drewN ?_ _ | refine blk_drew ?_ | refine blk_alloc ?_ _)); exact BK316.out)) : gb325 ≠ gb316))
               have n9_ := Aside0.mk ((by rw [hg]; exact Nat.ne_of_lt (blk_lt (g := gb317) (o := .cells #[.int .i64 a1_0, .int .i64 a1_1] 24 (0, 0)) (by (with_reducible repeat (first | refine blk_drewN ?_ _ | refine blk_drew ?_ | refine blk_alloc ?_ _)); exact BK317.out)) : gb317 ≠ gb325))
               have n10_ := Aside0.mk ((by rw [hg]; exact Nat.ne_of_gt (blk_lt (g := gb317) (o := .cells #[.int .i64 a1_0, .int .i64 a1_1] 24 (0, 0)) (by (with_reducible repeat (first | refine blk_drewN ?_ _ | refine blk_drew ?_ | refine blk_alloc ?_ _)); exact BK317.out)) : gb325 ≠ gb317))
               have n11_ := Aside0.mk ((by rw [hg]; exact Nat.ne_of_lt (blk_lt (g := gb324) (o := .cells #[.int .i64 0, .int .i64 0] 24 (0, 0)) (by (with_reducible repeat (first | refine blk_drewN ?_ _ | refine blk_drew ?_ | refine blk_alloc ?_ _)); exact BK324.out)) : gb324 ≠ gb325))
               have n12_ := Aside0.mk ((by rw [hg]; exact Nat.ne_of_gt (blk_lt (g := gb324) (o := .cells #[.int .i64 0, .int .i64 0] 24 (0, 0)) (by (with_reducible repeat (first | refine blk_drewN ?_ _ | refine blk_drew ?_ | refine blk_alloc ?_ _)); exact BK324.out)) : gb325 ≠ gb324))
               clear BK316
               clear BK317
               clear BK324
               clear HB
               have BK316 := n0_
               have BK317 := n1_
               have BK324 := n2_
               have HB := n3_
               have BK325 := n4_
               have GW325 := n5_
               have GE325 := n6_
               have NB316_325 := n7_
               have NB325_316 := n8_
               have NB317_325 := n9_
               have NB325_317 := n10_
               have NB324_325 := n11_
               have NB325_324 := n12_
               clear n0_ n1_ n2_ n3_ n4_ n5_ n6_ n7_ n8_ n9_ n10_ n11_ n12_
               clear hb hbox hg
               refine hK.out _ _ ⟨(blk_cell BK316.out 0).trans rfl, (blk_cell BK316.out 1).trans rfl, (blk_cell BK317.out 0).trans rfl, (blk_cell BK317.out 1).trans rfl⟩ (fun hHeld => ?_)
               clear hK K
               refine norm_ (a' := ?_) ?_ ?_
               rotate_left
               ·show Act.put _ (some 8) _ = _
                simp only [Act.put, List.setIfInBounds_toArray, List.set_cons_zero, List.set_cons_succ, i64_w, i32_w]
                rfl
               exact norm_ (by first | (simp only [putAll, Act.put, List.setIfInBounds_toArray, List.set_cons_zero, List.set_cons_succ]; done) | (simp only [putAll, Act.put, List.setIfInBounds_toArray, List.set_cons_zero, List.set_cons_succ]; rfl)) (hJ6_7 (gb324, gb325) _ ⟨hHeld, (by (with_reducible repeat (first | refine blk_drewN ?_ _ | refine blk_drew ?_ | refine blk_alloc ?_ _)); exact BK316.out), (by (with_reducible repeat (first | refine blk_drewN ?_ _ | refine blk_drew ?_ | refine blk_alloc ?_ _)); exact BK317.out), (by (with_reducible repeat (first | refine blk_drewN ?_ _ | refine blk_drew ?_ | refine blk_alloc ?_ _)); exact BK324.out), (by (with_reducible repeat (first | refine blk_drewN ?_ _ | refine blk_drew ?_ | refine blk_alloc ?_ _)); exact BK325.out), GW324.out, GE324.out, NB316_324.out, NB324_316.out, NB317_324.out, NB324_317.out, NB325_324.out, NB324_325.out, GW325.out, GE325.out, NB316_325.out, NB325_316.out, NB317_325.out, NB325_317.out, (by repeat (first | (with_reducible first | exact HB.out | apply below_alloc | apply pw_below_drewN | apply below_drew1 | refine below_set ?_ GE316.out | refine below_set ?_ GE317.out | refine below_set ?_ GE324.out | refine below_set ?_ GE325.out) | exact HB.out))⟩)
            ·skip
             rintro _ w41 ⟨hS_, h0_, h1_, h2_⟩
             have n0_ : Aside0 (w41.heap[gb316]? = some (.cells #[.int .i64 a0_0, .int .i64 a0_1] 24 (0, 0))) := ⟨h0_⟩
             have n1_ : Aside0 (w41.heap[gb317]? = some (.cells #[.int .i64 a1_0, .int .i64 a1_1] 24 (0, 0))) := ⟨h1_⟩
             have n2_ : Aside0 (Below w.heap.size w w41) := ⟨h2_⟩
             clear BK316
             clear BK317
             clear HB
             clear h0_ h1_ h2_
             have BK316 := n0_
             have BK317 := n1_
             have HB := n2_
             clear n0_ n1_ n2_
             have hHeld : w41.cell? ⟨gb316, 0, none⟩ = some (.int .i64 a0_0) ∧ w41.cell? ⟨gb316, 1, none⟩ = some (.int .i64 a0_1) ∧ w41.cell? ⟨gb317, 0, none⟩ = some (.int .i64 a1_0) ∧ w41.cell? ⟨gb317, 1, none⟩ = some (.int .i64 a1_1) := hS_
             refine norm_ (a' := ?_) ?_ ?_
             rotate_left
             ·simp only [putAll, Act.put, List.setIfInBounds_toArray, List.set_cons_zero, List.set_cons_succ]
              rfl
             refine three_ (i := 5) (j := 6) (k := 7) (Ni := some 48) (Nj := some 7) (Nk := some 8) #[true, true, true, true, true, true, false, false, false, false] #[true, true, true, true, true, false, true, false, false, false] #[true, true, true, true, true, false, false, true, false, false] rfl rfl rfl rfl rfl rfl (three_of HT_.out (by kernel_rfl)) (by decide) (by decide) (by decide) (fun K hK => ?_) (fun K hK => ?_) (fun K hK => ?_)
             ·skip
              refine goes_ Try.func20 (by kernel_rfl) rfl #[.agg #[.int .i64 a1_0, .int .i64 a1_1], .agg #[.int .i64 a0_0, .int .i64 a0_1]] (by rfl) rfl rfl (by (try simp only [List.map_toArray, List.map_cons, List.map_nil]); first | done | rfl | (simp only [List.length_drop, List.length_take]; rfl)) ?_
              with_reducible refine (impl_RangeBoth.calls a1_0 a1_1 a0_0 a0_1 t322 t323 _ A36.out).mono ?_
              rintro e w42 ⟨rfl, hb⟩
              refine ⟨_, rfl, ?_⟩
              have n0_ := Aside0.mk (blk_below (g := gb316) (o := .cells #[.int .i64 a0_0, .int .i64 a0_1] 24 (0, 0)) (by (with_reducible repeat (first | refine blk_drewN ?_ _ | refine blk_drew ?_ | refine blk_alloc ?_ _)); exact BK316.out) hb)
              have n1_ := Aside0.mk (blk_below (g := gb317) (o := .cells #[.int .i64 a1_0, .int .i64 a1_1] 24 (0, 0)) (by (with_reducible repeat (first | refine blk_drewN ?_ _ | refine blk_drew ?_ | refine blk_alloc ?_ _)); exact BK317.out) hb)
              have n2_ := Aside0.mk (below_step (by repeat (first | (with_reducible first | exact HB.out | apply below_alloc | apply pw_below_drewN | apply below_drew1 | refine below_set ?_ GE316.out | refine below_set ?_ GE317.out) | exact HB.out)) hb)
              clear BK316
              clear BK317
              clear HB
              have BK316 := n0_
              have BK317 := n1_
              have HB := n2_
              clear n0_ n1_ n2_
              (try clear hb)
              (try clear hb2)
              (try clear hk)
              (try clear hi)
              refine hK.out _ _ ⟨(blk_cell BK316.out 0).trans rfl, (blk_cell BK316.out 1).trans rfl, (blk_cell BK317.out 0).trans rfl, (blk_cell BK317.out 1).trans rfl⟩ (fun hHeld => ?_)
              clear hK K
              refine norm_ (a' := ?_) ?_ ?_
              rotate_left
              ·show Act.put _ (some 48) _ = _
               simp only [Act.put, List.setIfInBounds_toArray, List.set_cons_zero, List.set_cons_succ, i64_w, i32_w]
               rfl
              exact norm_ (by first | (simp only [putAll, Act.put, List.setIfInBounds_toArray, List.set_cons_zero, List.set_cons_succ]; done) | (simp only [putAll, Act.put, List.setIfInBounds_toArray, List.set_cons_zero, List.set_cons_succ]; rfl)) (hJ2_5 () _ ⟨hHeld, (by (with_reducible repeat (first | refine blk_drewN ?_ _ | refine blk_drew ?_ | refine blk_alloc ?_ _)); exact BK316.out), (by (with_reducible repeat (first | refine blk_drewN ?_ _ | refine blk_drew ?_ | refine blk_alloc ?_ _)); exact BK317.out), (by repeat (first | (with_reducible first | exact HB.out | apply below_alloc | apply pw_below_drewN | apply below_drew1 | refine below_set ?_ GE316.out | refine below_set ?_ GE317.out) | exact HB.out))⟩)
             ·skip
              refine box_step ?hg (N := 7) ?hd (cs := #[.int .i64 0, .int .i64 0]) (t := 24) ?hr ?_; (case hd => rfl); (case hg => rfl); (case hr => first | (go_simp; done) | (go_simp; rfl))
              intro gb324 hg w42 hbox hb
              have n0_ := Aside0.mk (blk_below (g := gb316) (o := .cells #[.int .i64 a0_0, .int .i64 a0_1] 24 (0, 0)) (by (with_reducible repeat (first | refine blk_drewN ?_ _ | refine blk_drew ?_ | refine blk_alloc ?_ _)); exact BK316.out) hb)
              have n1_ := Aside0.mk (blk_below (g := gb317) (o := .cells #[.int .i64 a1_0, .int .i64 a1_1] 24 (0, 0)) (by (with_reducible repeat (first | refine blk_drewN ?_ _ | refine blk_drew ?_ | refine blk_alloc ?_ _)); exact BK317.out) hb)
              have n2_ := Aside0.mk (below_step (by repeat (first | (with_reducible first | exact HB.out | apply below_alloc | apply pw_below_drewN | apply below_drew1 | refine below_set ?_ GE316.out | refine below_set ?_ GE317.out) | exact HB.out)) hb)
              have n3_ := Aside0.mk (hbox)
              have n4_ := Aside0.mk ((by rw [hg]; exact (below_size (by repeat (first | (with_reducible first | exact HB.out | apply below_alloc | apply pw_below_drewN | apply below_drew1 | refine below_set ?_ GE316.out | refine below_set ?_ GE317.out) | exact HB.out))) : w.heap.size ≤ gb324))
              have n5_ := Aside0.mk ((by rw [hg]; exact (below_size (by repeat (first | (with_reducible first | exact HB.out | apply below_alloc | apply pw_below_drewN | apply below_drew1 | refine below_set ?_ GE316.out | refine below_set ?_ GE317.out) | exact HB.out))) : w.heap.size ≤ gb324))
              have n6_ := Aside0.mk ((by rw [hg]; exact Nat.ne_of_lt (blk_lt (g := gb316) (o := .cells #[.int .i64 a0_0, .int .i64 a0_1] 24 (0, 0)) (by (with_reducible repeat (first | refine blk_drewN ?_ _ | refine blk_drew ?_ | refine blk_alloc ?_ _)); exact BK316.out)) : gb316 ≠ gb324))
              have n7_ := Aside0.mk ((by rw [hg]; exact Nat.ne_of_gt (blk_lt (g := gb316) (o := .cells #[.int .i64 a0_0, .int .i64 a0_1] 24 (0, 0)) (by (with_reducible repeat (first | refine blk_drewN ?_ _ | refine blk_drew ?_ | refine blk_alloc ?_ _)); exact BK316.out)) : gb324 ≠ gb316))
              have n8_ := Aside0.mk ((by rw [hg]; exact Nat.ne_of_lt (blk_lt (g := gb317) (o := .cells #[.int .i64 a1_0, .int .i64 a1_1] 24 (0, 0)) (by (with_reducible repeat (first | refine blk_drewN ?_ _ | refine blk_drew ?_ | refine blk_alloc ?_ _)); exact BK317.out)) : gb317 ≠ gb324))
              have n9_ := Aside0.mk ((by rw [hg]; exact Nat.ne_of_gt (blk_lt (g := gb317) (o := .cells #[.int .i64 a1_0, .int .i64 a1_1] 24 (0, 0)) (by (with_reducible repeat (first | refine blk_drewN ?_ _ | refine blk_drew ?_ | refine blk_alloc ?_ _)); exact BK317.out)) : gb324 ≠ gb317))
              clear BK316
              clear BK317
              clear HB
              have BK316 := n0_
              have BK317 := n1_
              have HB := n2_
              have BK324 := n3_
              have GW324 := n4_
              have GE324 := n5_
              have NB316_324 := n6_
              have NB324_316 := n7_
              have NB317_324 := n8_
              have NB324_317 := n9_
              clear n0_ n1_ n2_ n3_ n4_ n5_ n6_ n7_ n8_ n9_
              clear hb hbox hg
              refine hK.out _ _ ⟨(blk_cell BK316.out 0).trans rfl, (blk_cell BK316.out 1).trans rfl, (blk_cell BK317.out 0).trans rfl, (blk_cell BK317.out 1).trans rfl⟩ (fun hHeld => ?_)
              clear hK K
              refine norm_ (a' := ?_) ?_ ?_
              rotate_left
              ·show Act.put _ (some 7) _ = _
               simp only [Act.put, List.setIfInBounds_toArray, List.set_cons_zero, List.set_cons_succ, i64_w, i32_w]
               rfl
              exact norm_ (by first | (simp only [putAll, Act.put, List.setIfInBounds_toArray, List.set_cons_zero, List.set_cons_succ]; done) | (simp only [putAll, Act.put, List.setIfInBounds_toArray, List.set_cons_zero, List.set_cons_succ]; rfl)) (hJ2_6 (gb324) _ ⟨hHeld, (by (with_reducible repeat (first | refine blk_drewN ?_ _ | refine blk_drew ?_ | refine blk_alloc ?_ _)); exact BK316.out), (by (with_reducible repeat (first | refine blk_drewN ?_ _ | refine blk_drew ?_ | refine blk_alloc ?_ _)); exact BK317.out), (by (with_reducible repeat (first | refine blk_drewN ?_ _ | refine blk_drew ?_ | refine blk_alloc ?_ _)); exact BK324.out), GW324.out, GE324.out, NB316_324.out, NB324_316.out, NB317_324.out, NB324_317.out, (by repeat (first | (with_reducible first | exact HB.out | apply below_alloc | apply pw_below_drewN | apply below_drew1 | refine below_set ?_ GE316.out | refine below_set ?_ GE317.out | refine below_set ?_ GE324.out) | exact HB.out))⟩)
             ·skip
              refine box_step ?hg (N := 8) ?hd (cs := #[.int .i64 0, .int .i64 0]) (t := 24) ?hr ?_; (case hd => rfl); (case hg => rfl); (case hr => first | (go_simp; done) | (go_simp; rfl))
              intro gb325 hg w42 hbox hb
              have n0_ := Aside0.mk (blk_below (g := gb316) (o := .cells #[.int .i64 a0_0, .int .i64 a0_1] 24 (0, 0)) (by (with_reducible repeat (first | refine blk_drewN ?_ _ | refine blk_drew ?_ | refine blk_alloc ?_ _)); exact BK316.out) hb)
              have n1_ := Aside0.mk (blk_below (g := gb317) (o := .cells #[.int .i64 a1_0, .int .i64 a1_1] 24 (0, 0)) (by (with_reducible repeat (first | refine blk_drewN ?_ _ | refine blk_drew ?_ | refine blk_alloc ?_ _)); exact BK317.out) hb)
              have n2_ := Aside0.mk (below_step (by repeat (first | (with_reducible first | exact HB.out | apply below_alloc | apply pw_below_drewN | apply below_drew1 | refine below_set ?_ GE316.out | refine below_set ?_ GE317.out) | exact HB.out)) hb)
              have n3_ := Aside0.mk (hbox)
              have n4_ := Aside0.mk ((by rw [hg]; exact (below_size (by repeat (first | (with_reducible first | exact HB.out | apply below_alloc | apply pw_below_drewN | apply below_drew1 | refine below_set ?_ GE316.out | refine below_set ?_ GE317.out) | exact HB.out))) : w.heap.size ≤ gb325))
              have n5_ := Aside0.mk ((by rw [hg]; exact (below_size (by repeat (first | (with_reducible first | exact HB.out | apply below_alloc | apply pw_below_drewN | apply below_drew1 | refine below_set ?_ GE316.out | refine below_set ?_ GE317.out) | exact HB.out))) : w.heap.size ≤ gb325))
              have n6_ := Aside0.mk ((by rw [hg]; exact Nat.ne_of_lt (blk_lt (g := gb316) (o := .cells #[.int .i64 a0_0, .int .i64 a0_1] 24 (0, 0)) (by (with_reducible repeat (first | refine blk_drewN ?_ _ | refine blk_drew ?_ | refine blk_alloc ?_ _)); exact BK316.out)) : gb316 ≠ gb325))
              have n7_ := Aside0.mk ((by rw [hg]; exact Nat.ne_of_gt (blk_lt (g := gb316) (o := .cells #[.int .i64 a0_0, .int .i64 a0_1] 24 (0, 0)) (by (with_reducible repeat (first | refine blk_drewN ?_ _ | refine blk_drew ?_ | refine blk_alloc ?_ _)); exact BK316.out)) : gb325 ≠ gb316))
              have n8_ := Aside0.mk ((by rw [hg]; exact Nat.ne_of_lt (blk_lt (g := gb317) (o := .cells #[.int .i64 a1_0, .int .i64 a1_1] 24 (0, 0)) (by (with_reducible repeat (first | refine blk_drewN ?_ _ | refine blk_drew ?_ | refine blk_alloc ?_ _)); exact BK317.out)) : gb317 ≠ gb325))
              have n9_ := Aside0.mk ((by rw [hg]; exact Nat.ne_of_gt (blk_lt (g := gb317) (o := .cells #[.int .i64 a1_0, .int .i64 a1_1] 24 (0, 0)) (by (with_reducible repeat (first | refine blk_drewN ?_ _ | refine blk_drew ?_ | refine blk_alloc ?_ _)); exact BK317.out)) : gb325 ≠ gb317))
              clear BK316
              clear BK317
              clear HB
              have BK316 := n0_
              have BK317 := n1_
              have HB := n2_
              have BK325 := n3_
              have GW325 := n4_
              have GE325 := n5_
              have NB316_325 := n6_
              have NB325_316 := n7_
              have NB317_325 := n8_
              have NB325_317 := n9_
              clear n0_ n1_ n2_ n3_ n4_ n5_ n6_ n7_ n8_ n9_
              clear hb hbox hg
              refine hK.out _ _ ⟨(blk_cell BK316.out 0).trans rfl, (blk_cell BK316.out 1).trans rfl, (blk_cell BK317.out 0).trans rfl, (blk_cell BK317.out 1).trans rfl⟩ (fun hHeld => ?_)
              clear hK K
              refine norm_ (a' := ?_) ?_ ?_
              rotate_left
              ·show Act.put _ (some 8) _ = _
               simp only [Act.put, List.setIfInBounds_toArray, List.set_cons_zero, List.set_cons_succ, i64_w, i32_w]
               rfl
              exact norm_ (by first | (simp only [putAll, Act.put, List.setIfInBounds_toArray, List.set_cons_zero, List.set_cons_succ]; done) | (simp only [putAll, Act.put, List.setIfInBounds_toArray, List.set_cons_zero, List.set_cons_succ]; rfl)) (hJ2_7 (gb325) _ ⟨hHeld, (by (with_reducible repeat (first | refine blk_drewN ?_ _ | refine blk_drew ?_ | refine blk_alloc ?_ _)); exact BK316.out), (by (with_reducible repeat (first | refine blk_drewN ?_ _ | refine blk_drew ?_ | refine blk_alloc ?_ _)); exact BK317.out), (by (with_reducible repeat (first | refine blk_drewN ?_ _ | refine blk_drew ?_ | refine blk_alloc ?_ _)); exact BK325.out), GW325.out, GE325.out, NB316_325.out, NB325_316.out, NB317_325.out, NB325_317.out, (by repeat (first | (with_reducible first | exact HB.out | apply below_alloc | apply pw_below_drewN | apply below_drew1 | refine below_set ?_ GE316.out | refine below_set ?_ GE317.out | refine below_set ?_ GE325.out) | exact HB.out))⟩)
           ·skip
            rintro ⟨gb324, gb325⟩ w42 ⟨hS_, h0_, h1_, h2_, h3_, h4_, h5_, h6_, h7_, h8_, h9_, h10_, h11_, h12_, h13_, h14_, h15_, h16_, h17_, h18_⟩
            have n0_ : Aside0 (w42.heap[gb316]? = some (.cells #[.int .i64 a0_0, .int .i64 a0_1] 24 (0, 0))) := ⟨h0_⟩
            have n1_ : Aside0 (w42.heap[gb317]? = some (.cells #[.int .i64 a1_0, .int .i64 a1_1] 24 (0, 0))) := ⟨h1_⟩
            have n2_ : Aside0 (w42.heap[gb324]? = some (.cells #[.int .i64 0, .int .i64 0] 24 (0, 0))) := ⟨h2_⟩
            have n3_ : Aside0 (w42.heap[gb325]? = some (.cells #[.int .i64 0, .int .i64 0] 24 (0, 0))) := ⟨h3_⟩
            have n4_ : Aside0 (w.heap.size ≤ gb324) := ⟨h4_⟩
            have n5_ : Aside0 (w.heap.size ≤ gb324) := ⟨h5_⟩
            have n6_ : Aside0 (gb316 ≠ gb324) := ⟨h6_⟩
            have n7_ : Aside0 (gb324 ≠ gb316) := ⟨h7_⟩
            have n8_ : Aside0 (gb317 ≠ gb324) := ⟨h8_⟩
            have n9_ : Aside0 (gb324 ≠ gb317) := ⟨h9_⟩
            have n10_ : Aside0 (gb325 ≠ gb324) := ⟨h10_⟩
            have n11_ : Aside0 (gb324 ≠ gb325) := ⟨h11_⟩
            have n12_ : Aside0 (w.heap.size ≤ gb325) := ⟨h12_⟩
            have n13_ : Aside0 (w.heap.size ≤ gb325) := ⟨h13_⟩
            have n14_ : Aside0 (gb316 ≠ gb325) := ⟨h14_⟩
            have n15_ : Aside0 (gb325 ≠ gb316) := ⟨h15_⟩
            have n16_ : Aside0 (gb317 ≠ gb325) := ⟨h16_⟩
            have n17_ : Aside0 (gb325 ≠ gb317) := ⟨h17_⟩
            have n18_ : Aside0 (Below w.heap.size w w42) := ⟨h18_⟩
            clear BK316
            clear BK317
            clear HB
            clear h0_ h1_ h2_ h3_ h4_ h5_ h6_ h7_ h8_ h9_ h10_ h11_ h12_ h13_ h14_ h15_ h16_ h17_ h18_
            have BK316 := n0_
            have BK317 := n1_
            have BK324 := n2_
            have BK325 := n3_
            have GW324 := n4_
            have GE324 := n5_
            have NB316_324 := n6_
            have NB324_316 := n7_
            have NB317_324 := n8_
            have NB324_317 := n9_
            have NB325_324 := n10_
            have NB324_325 := n11_
            have GW325 := n12_
            have GE325 := n13_
            have NB316_325 := n14_
            have NB325_316 := n15_
            have NB317_325 := n16_
            have NB325_317 := n17_
            have HB := n18_
            clear n0_ n1_ n2_ n3_ n4_ n5_ n6_ n7_ n8_ n9_ n10_ n11_ n12_ n13_ n14_ n15_ n16_ n17_ n18_
            have hHeld : w42.cell? ⟨gb316, 0, none⟩ = some (.int .i64 a0_0) ∧ w42.cell? ⟨gb316, 1, none⟩ = some (.int .i64 a0_1) ∧ w42.cell? ⟨gb317, 0, none⟩ = some (.int .i64 a1_0) ∧ w42.cell? ⟨gb317, 1, none⟩ = some (.int .i64 a1_1) := hS_
            refine norm_ (a' := ?_) ?_ ?_
            rotate_left
            ·simp only [putAll, Act.put, List.setIfInBounds_toArray, List.set_cons_zero, List.set_cons_succ]
             rfl
            refine one_ (i := 2) (N := some 45) #[true, true, true, true, true, false, true, true, false, false] rfl rfl (one_of HT_.out (by kernel_rfl)) (by decide) (fun K hK => ?_)
            refine goes_ Try.func20 (by kernel_rfl) rfl #[.agg #[.int .i64 a0_0, .int .i64 a0_1], .agg #[.int .i64 a1_0, .int .i64 a1_1]] (by rfl) rfl rfl (by (try simp only [List.map_toArray, List.map_cons, List.map_nil]); first | done | rfl | (simp only [List.length_drop, List.length_take]; rfl)) ?_
            with_reducible refine (impl_RangeBoth.calls a0_0 a0_1 a1_0 a1_1 t320 t321 _ A35.out).mono ?_
            rintro e w43 ⟨rfl, hb⟩
            refine ⟨_, rfl, ?_⟩
            have n0_ := Aside0.mk (blk_below (g := gb316) (o := .cells #[.int .i64 a0_0, .int .i64 a0_1] 24 (0, 0)) (by (with_reducible repeat (first | refine blk_drewN ?_ _ | refine blk_drew ?_ | refine blk_alloc ?_ _)); exact BK316.out) hb)
            have n1_ := Aside0.mk (blk_below (g := gb317) (o := .cells #[.int .i64 a1_0, .int .i64 a1_1] 24 (0, 0)) (by (with_reducible repeat (first | refine blk_drewN ?_ _ | refine blk_drew ?_ | refine blk_alloc ?_ _)); exact BK317.out) hb)
            have n2_ := Aside0.mk (blk_below (g := gb324) (o := .cells #[.int .i64 0, .int .i64 0] 24 (0, 0)) (by (with_reducible repeat (first | refine blk_drewN ?_ _ | refine blk_drew ?_ | refine blk_alloc ?_ _)); exact BK324.out) hb)
            have n3_ := Aside0.mk (blk_below (g := gb325) (o := .cells #[.int .i64 0, .int .i64 0] 24 (0, 0)) (by (with_reducible repeat (first | refine blk_drewN ?_ _ | refine blk_drew ?_ | refine blk_alloc ?_ _)); exact BK325.out) hb)
            have n4_ := Aside0.mk (below_step (by repeat (first | (with_reducible first | exact HB.out | apply below_alloc | apply pw_below_drewN | apply below_drew1 | refine below_set ?_ GE316.out | refine below_set ?_ GE317.out | refine below_set ?_ GE324.out | refine below_set ?_ GE325.out) | exact HB.out)) hb)
            clear BK316
            clear BK317
            clear BK324
            clear BK325
            clear HB
            have BK316 := n0_
            have BK317 := n1_
            have BK324 := n2_
            have BK325 := n3_
            have HB := n4_
            clear n0_ n1_ n2_ n3_ n4_
            (try clear hb)
            (try clear hb2)
            (try clear hk)
            (try clear hi)
            refine hK.out _ _ ⟨(blk_cell BK316.out 0).trans rfl, (blk_cell BK316.out 1).trans rfl, (blk_cell BK317.out 0).trans rfl, (blk_cell BK317.out 1).trans rfl⟩ (fun hHeld => ?_)
            clear hK K
            refine norm_ (a' := ?_) ?_ ?_
            rotate_left
            ·show Act.put _ (some 45) _ = _
             simp only [Act.put, List.setIfInBounds_toArray, List.set_cons_zero, List.set_cons_succ, i64_w, i32_w]
             rfl
            exact norm_ (by first | (simp only [putAll, Act.put, List.setIfInBounds_toArray, List.set_cons_zero, List.set_cons_succ]; done) | (simp only [putAll, Act.put, List.setIfInBounds_toArray, List.set_cons_zero, List.set_cons_succ]; rfl)) (hJ2_6_7 (gb324, gb325) _ ⟨hHeld, (by (with_reducible repeat (first | refine blk_drewN ?_ _ | refine blk_drew ?_ | refine blk_alloc ?_ _)); exact BK316.out), (by (with_reducible repeat (first | refine blk_drewN ?_ _ | refine blk_drew ?_ | refine blk_alloc ?_ _)); exact BK317.out), (by (with_reducible repeat (first | refine blk_drewN ?_ _ | refine blk_drew ?_ | refine blk_alloc ?_ _)); exact BK324.out), (by (with_reducible repeat (first | refine blk_drewN ?_ _ | refine blk_drew ?_ | refine blk_alloc ?_ _)); exact BK325.out), GW324.out, GE324.out, NB316_324.out, NB324_316.out, NB317_324.out, NB324_317.out, NB325_324.out, NB324_325.out, GW325.out, GE325.out, NB316_325.out, NB325_316.out, NB317_325.out, NB325_317.out, (by repeat (first | (with_reducible first | exact HB.out | apply below_alloc | apply pw_below_drewN | apply below_drew1 | refine below_set ?_ GE316.out | refine below_set ?_ GE317.out | refine below_set ?_ GE324.out | refine below_set ?_ GE325.out) | exact HB.out))⟩)
          ·skip
           rintro gb325 w42 ⟨hS_, h0_, h1_, h2_, h3_, h4_, h5_, h6_, h7_, h8_, h9_⟩
           have n0_ : Aside0 (w42.heap[gb316]? = some (.cells #[.int .i64 a0_0, .int .i64 a0_1] 24 (0, 0))) := ⟨h0_⟩
           have n1_ : Aside0 (w42.heap[gb317]? = some (.cells #[.int .i64 a1_0, .int .i64 a1_1] 24 (0, 0))) := ⟨h1_⟩
           have n2_ : Aside0 (w42.heap[gb325]? = some (.cells #[.int .i64 0, .int .i64 0] 24 (0, 0))) := ⟨h2_⟩
           have n3_ : Aside0 (w.heap.size ≤ gb325) := ⟨h3_⟩
           have n4_ : Aside0 (w.heap.size ≤ gb325) := ⟨h4_⟩
           have n5_ : Aside0 (gb316 ≠ gb325) := ⟨h5_⟩
           have n6_ : Aside0 (gb325 ≠ gb316) := ⟨h6_⟩
           have n7_ : Aside0 (gb317 ≠ gb325) := ⟨h7_⟩
           have n8_ : Aside0 (gb325 ≠ gb317) := ⟨h8_⟩
           have n9_ : Aside0 (Below w.heap.size w w42) := ⟨h9_⟩
           clear BK316
           clear BK317
           clear HB
           clear h0_ h1_ h2_ h3_ h4_ h5_ h6_ h7_ h8_ h9_
           have BK316 := n0_
           have BK317 := n1_
           have BK325 := n2_
           have GW325 := n3_
           have GE325 := n4_
           have NB316_325 := n5_
           have NB325_316 := n6_
           have NB317_325 := n7_
           have NB325_317 := n8_
           have HB := n9_
           clear n0_ n1_ n2_ n3_ n4_ n5_ n6_ n7_ n8_ n9_
           have hHeld : w42.cell? ⟨gb316, 0, none⟩ = some (.int .i64 a0_0) ∧ w42.cell? ⟨gb316, 1, none⟩ = some (.int .i64 a0_1) ∧ w42.cell? ⟨gb317, 0, none⟩ = some (.int .i64 a1_0) ∧ w42.cell? ⟨gb317, 1, none⟩ = some (.int .i64 a1_1) := hS_
           refine norm_ (a' := ?_) ?_ ?_
           rotate_left
           ·simp only [putAll, Act.put, List.setIfInBounds_toArray, List.set_cons_zero, List.set_cons_succ]
            rfl
           refine two_ (i := 5) (j := 6) (Ni := some 48) (Nj := some 7) #[true, true, true, true, true, true, false, true, false, false] #[true, true, true, true, true, false, true, true, false, false] rfl rfl rfl rfl (two_of HT_.out (by kernel_rfl)) (by decide) (by decide) (fun K hK => ?_) (fun K hK => ?_)
           ·skip
            refine goes_ Try.func20 (by kernel_rfl) rfl #[.agg #[.int .i64 a1_0, .int .i64 a1_1], .agg #[.int .i64 a0_0, .int .i64 a0_1]] (by rfl) rfl rfl (by (try simp only [List.map_toArray, List.map_cons, List.map_nil]); first | done | rfl | (simp only [List.length_drop, List.length_take]; rfl)) ?_
            with_reducible refine (impl_RangeBoth.calls a1_0 a1_1 a0_0 a0_1 t322 t323 _ A36.out).mono ?_
            rintro e w43 ⟨rfl, hb⟩
            refine ⟨_, rfl, ?_⟩
            have n0_ := Aside0.mk (blk_below (g := gb316) (o := .cells #[.int .i64 a0_0, .int .i64 a0_1] 24 (0, 0)) (by (with_reducible repeat (first | refine blk_drewN ?_ _ | refine blk_drew ?_ | refine blk_alloc ?_ _)); exact BK316.out) hb)
            have n1_ := Aside0.mk (blk_below (g := gb317) (o := .cells #[.int .i64 a1_0, .int .i64 a1_1] 24 (0, 0)) (by (with_reducible repeat (first | refine blk_drewN ?_ _ | refine blk_drew ?_ | refine blk_alloc ?_ _)); exact BK317.out) hb)
            have n2_ := Aside0.mk (blk_below (g := gb325) (o := .cells #[.int .i64 0, .int .i64 0] 24 (0, 0)) (by (with_reducible repeat (first | refine blk_drewN ?_ _ | refine blk_drew ?_ | refine blk_alloc ?_ _)); exact BK325.out) hb)
            have n3_ := Aside0.mk (below_step (by repeat (first | (with_reducible first | exact HB.out | apply below_alloc | apply pw_below_drewN | apply below_drew1 | refine below_set ?_ GE316.out | refine below_set ?_ GE317.out | refine below_set ?_ GE325.out) | exact HB.out)) hb)
            clear BK316
            clear BK317
            clear BK325
            clear HB
            have BK316 := n0_
            have BK317 := n1_
            have BK325 := n2_
            have HB := n3_
            clear n0_ n1_ n2_ n3_
            (try clear hb)
            (try clear hb2)
            (try clear hk)
            (try clear hi)
            refine hK.out _ _ ⟨(blk_cell BK316.out 0).trans rfl, (blk_cell BK316.out 1).trans rfl, (blk_cell BK317.out 0).trans rfl, (blk_cell BK317.out 1).trans rfl⟩ (fun hHeld => ?_)
            clear hK K
            refine norm_ (a' := ?_) ?_ ?_
            rotate_left
            ·show Act.put _ (some 48) _ = _
             simp only [Act.put, List.setIfInBounds_toArray, List.set_cons_zero, List.set_cons_succ, i64_w, i32_w]
             rfl
            exact norm_ (by first | (simp only [putAll, Act.put, List.setIfInBounds_toArray, List.set_cons_zero, List.set_cons_succ]; done) | (simp only [putAll, Act.put, List.setIfInBounds_toArray, List.set_cons_zero, List.set_cons_succ]; rfl)) (hJ2_5_7 (gb325) _ ⟨hHeld, (by (with_reducible repeat (first | refine blk_drewN ?_ _ | refine blk_drew ?_ | refine blk_alloc ?_ _)); exact BK316.out), (by (with_reducible repeat (first | refine blk_drewN ?_ _ | refine blk_drew ?_ | refine blk_alloc ?_ _)); exact BK317.out), (by (with_reducible repeat (first | refine blk_drewN ?_ _ | refine blk_drew ?_ | refine blk_alloc ?_ _)); exact BK325.out), GW325.out, GE325.out, NB316_325.out, NB325_316.out, NB317_325.out, NB325_317.out, (by repeat (first | (with_reducible first | exact HB.out | apply below_alloc | apply pw_below_drewN | apply below_drew1 | refine below_set ?_ GE316.out | refine below_set ?_ GE317.out | refine below_set ?_ GE325.out) | exact HB.out))⟩)
           ·skip
            refine box_step ?hg (N := 7) ?hd (cs := #[.int .i64 0, .int .i64 0]) (t := 24) ?hr ?_; (case hd => rfl); (case hg => rfl); (case hr => first | (go_simp; done) | (go_simp; rfl))
            intro gb324 hg w43 hbox hb
            have n0_ := Aside0.mk (blk_below (g := gb316) (o := .cells #[.int .i64 a0_0, .int .i64 a0_1] 24 (0, 0)) (by (with_reducible repeat (first | refine blk_drewN ?_ _ | refine blk_drew ?_ | refine blk_alloc ?_ _)); exact BK316.out) hb)
            have n1_ := Aside0.mk (blk_below (g := gb317) (o := .cells #[.int .i64 a1_0, .int .i64 a1_1] 24 (0, 0)) (by (with_reducible repeat (first | refine blk_drewN ?_ _ | refine blk_drew ?_ | refine blk_alloc ?_ _)); exact BK317.out) hb)
            have n2_ := Aside0.mk (blk_below (g := gb325) (o := .cells #[.int .i64 0, .int .i64 0] 24 (0, 0)) (by (with_reducible repeat (first | refine blk_drewN ?_ _ | refine blk_drew ?_ | refine blk_alloc ?_ _)); exact BK325.out) hb)
            have n3_ := Aside0.mk (below_step (by repeat (first | (with_reducible first | exact HB.out | apply below_alloc | apply pw_below_drewN | apply below_drew1 | refine below_set ?_ GE316.out | refine below_set ?_ GE317.out | refine below_set ?_ GE325.out) | exact HB.out)) hb)
            have n4_ := Aside0.mk (hbox)
            have n5_ := Aside0.mk ((by rw [hg]; exact (below_size (by repeat (first | (with_reducible first | exact HB.out | apply below_alloc | apply pw_below_drewN | apply below_drew1 | refine below_set ?_ GE316.out | refine below_set ?_ GE317.out | refine below_set ?_ GE325.out) | exact HB.out))) : w.heap.size ≤ gb324))
            have n6_ := Aside0.mk ((by rw [hg]; exact (below_size (by repeat (first | (with_reducible first | exact HB.out | apply below_alloc | apply pw_below_drewN | apply below_drew1 | refine below_set ?_ GE316.out | refine below_set ?_ GE317.out | refine below_set ?_ GE325.out) | exact HB.out))) : w.heap.size ≤ gb324))
            have n7_ := Aside0.mk ((by rw [hg]; exact Nat.ne_of_lt (blk_lt (g := gb316) (o := .cells #[.int .i64 a0_0, .int .i64 a0_1] 24 (0, 0)) (by (with_reducible repeat (first | refine blk_drewN ?_ _ | refine blk_drew ?_ | refine blk_alloc ?_ _)); exact BK316.out)) : gb316 ≠ gb324))
            have n8_ := Aside0.mk ((by rw [hg]; exact Nat.ne_of_gt (blk_lt (g := gb316) (o := .cells #[.int .i64 a0_0, .int .i64 a0_1] 24 (0, 0)) (by (with_reducible repeat (first | refine blk_drewN ?_ _ | refine blk_drew ?_ | refine blk_alloc ?_ _)); exact BK316.out)) : gb324 ≠ gb316))
            have n9_ := Aside0.mk ((by rw [hg]; exact Nat.ne_of_lt (blk_lt (g := gb317) (o := .cells #[.int .i64 a1_0, .int .i64 a1_1] 24 (0, 0)) (by (with_reducible repeat (first | refine blk_drewN ?_ _ | refine blk_drew ?_ | refine blk_alloc ?_ _)); exact BK317.out)) : gb317 ≠ gb324))
            have n10_ := Aside0.mk ((by rw [hg]; exact Nat.ne_of_gt (blk_lt (g := gb317) (o := .cells #[.int .i64 a1_0, .int .i64 a1_1] 24 (0, 0)) (by (with_reducible repeat (first | refine blk_drewN ?_ _ | refine blk_drew ?_ | refine blk_alloc ?_ _)); exact BK317.out)) : gb324 ≠ gb317))
            have n11_ := Aside0.mk ((by rw [hg]; exact Nat.ne_of_lt (blk_lt (g := gb325) (o := .cells #[.int .i64 0, .int .i64 0] 24 (0, 0)) (by (with_reducible repeat (first | refine blk_drewN ?_ _ | refine blk_drew ?_ | refine blk_alloc ?_ _)); exact BK325.out)) : gb325 ≠ gb324))
            have n12_ := Aside0.mk ((by rw [hg]; exact Nat.ne_of_gt (blk_lt (g := gb325) (o := .cells #[.int .i64 0, .int .i64 0] 24 (0, 0)) (by (with_reducible repeat (first | refine blk_drewN ?_ _ | refine blk_drew ?_ | refine blk_alloc ?_ _)); exact BK325.out)) : gb324 ≠ gb325))
            clear BK316
            clear BK317
            clear BK325
            clear HB
            have BK316 := n0_
            have BK317 := n1_
            have BK325 := n2_
            have HB := n3_
            have BK324 := n4_
            have GW324 := n5_
            have GE324 := n6_
            have NB316_324 := n7_
            have NB324_316 := n8_
            have NB317_324 := n9_
            have NB324_317 := n10_
            have NB325_324 := n11_
            have NB324_325 := n12_
            clear n0_ n1_ n2_ n3_ n4_ n5_ n6_ n7_ n8_ n9_ n10_ n11_ n12_
            clear hb hbox hg
            refine hK.out _ _ ⟨(blk_cell BK316.out 0).trans rfl, (blk_cell BK316.out 1).trans rfl, (blk_cell BK317.out 0).trans rfl, (blk_cell BK317.out 1).trans rfl⟩ (fun hHeld => ?_)
            clear hK K
            refine norm_ (a' := ?_) ?_ ?_
            rotate_left
            ·show Act.put _ (some 7) _ = _
             simp only [Act.put, List.setIfInBounds_toArray, List.set_cons_zero, List.set_cons_succ, i64_w, i32_w]
             rfl
            exact norm_ (by first | (simp only [putAll, Act.put, List.setIfInBounds_toArray, List.set_cons_zero, List.set_cons_succ]; done) | (simp only [putAll, Act.put, List.setIfInBounds_toArray, List.set_cons_zero, List.set_cons_succ]; rfl)) (hJ2_6_7 (gb324, gb325) _ ⟨hHeld, (by (with_reducible repeat (first | refine blk_drewN ?_ _ | refine blk_drew ?_ | refine blk_alloc ?_ _)); exact BK316.out), (by (with_reducible repeat (first | refine blk_drewN ?_ _ | refine blk_drew ?_ | refine blk_alloc ?_ _)); exact BK317.out), (by (with_reducible repeat (first | refine blk_drewN ?_ _ | refine blk_drew ?_ | refine blk_alloc ?_ _)); exact BK324.out), (by (with_reducible repeat (first | refine blk_drewN ?_ _ | refine blk_drew ?_ | refine blk_alloc ?_ _)); exact BK325.out), GW324.out, GE324.out, NB316_324.out, NB324_316.out, NB317_324.out, NB324_317.out, NB325_324.out, NB324_325.out, GW325.out, GE325.out, NB316_325.out, NB325_316.out, NB317_325.out, NB325_317.out, (by repeat (first | (with_reducible first | exact HB.out | apply below_alloc | apply pw_below_drewN | apply below_drew1 | refine below_set ?_ GE316.out | refine below_set ?_ GE317.out | refine below_set ?_ GE325.out | refine below_set ?_ GE324.out) | exact HB.out))⟩)
         ·skip
          rintro gb324 w42 ⟨hS_, h0_, h1_, h2_, h3_, h4_, h5_, h6_, h7_, h8_, h9_⟩
          have n0_ : Aside0 (w42.heap[gb316]? = some (.cells #[.int .i64 a0_0, .int .i64 a0_1] 24 (0, 0))) := ⟨h0_⟩
          have n1_ : Aside0 (w42.heap[gb317]? = some (.cells #[.int .i64 a1_0, .int .i64 a1_1] 24 (0, 0))) := ⟨h1_⟩
          have n2_ : Aside0 (w42.heap[gb324]? = some (.cells #[.int .i64 0, .int .i64 0] 24 (0, 0))) := ⟨h2_⟩
          have n3_ : Aside0 (w.heap.size ≤ gb324) := ⟨h3_⟩
          have n4_ : Aside0 (w.heap.size ≤ gb324) := ⟨h4_⟩
          have n5_ : Aside0 (gb316 ≠ gb324) := ⟨h5_⟩
          have n6_ : Aside0 (gb324 ≠ gb316) := ⟨h6_⟩
          have n7_ : Aside0 (gb317 ≠ gb324) := ⟨h7_⟩
          have n8_ : Aside0 (gb324 ≠ gb317) := ⟨h8_⟩
          have n9_ : Aside0 (Below w.heap.size w w42) := ⟨h9_⟩
          clear BK316
          clear BK317
          clear HB
          clear h0_ h1_ h2_ h3_ h4_ h5_ h6_ h7_ h8_ h9_
          have BK316 := n0_
          have BK317 := n1_
          have BK324 := n2_
          have GW324 := n3_
          have GE324 := n4_
          have NB316_324 := n5_
          have NB324_316 := n6_
          have NB317_324 := n7_
          have NB324_317 := n8_
          have HB := n9_
          clear n0_ n1_ n2_ n3_ n4_ n5_ n6_ n7_ n8_ n9_
          have hHeld : w42.cell? ⟨gb316, 0, none⟩ = some (.int .i64 a0_0) ∧ w42.cell? ⟨gb316, 1, none⟩ = some (.int .i64 a0_1) ∧ w42.cell? ⟨gb317, 0, none⟩ = some (.int .i64 a1_0) ∧ w42.cell? ⟨gb317, 1, none⟩ = some (.int .i64 a1_1) := hS_
          refine norm_ (a' := ?_) ?_ ?_
          rotate_left
          ·simp only [putAll, Act.put, List.setIfInBounds_toArray, List.set_cons_zero, List.set_cons_succ]
           rfl
          refine two_ (i := 5) (j := 7) (Ni := some 48) (Nj := some 8) #[true, true, true, true, true, true, true, false, false, false] #[true, true, true, true, true, false, true, true, false, false] rfl rfl rfl rfl (two_of HT_.out (by kernel_rfl)) (by decide) (by decide) (fun K hK => ?_) (fun K hK => ?_)
          ·skip
           refine goes_ Try.func20 (by kernel_rfl) rfl #[.agg #[.int .i64 a1_0, .int .i64 a1_1], .agg #[.int .i64 a0_0, .int .i64 a0_1]] (by rfl) rfl rfl (by (try simp only [List.map_toArray, List.map_cons, List.map_nil]); first | done | rfl | (simp only [List.length_drop, List.length_take]; rfl)) ?_
           with_reducible refine (impl_RangeBoth.calls a1_0 a1_1 a0_0 a0_1 t322 t323 _ A36.out).mono ?_
           rintro e w43 ⟨rfl, hb⟩
           refine ⟨_, rfl, ?_⟩
           have n0_ := Aside0.mk (blk_below (g := gb316) (o := .cells #[.int .i64 a0_0, .int .i64 a0_1] 24 (0, 0)) (by (with_reducible repeat (first | refine blk_drewN ?_ _ | refine blk_drew ?_ | refine blk_alloc ?_ _)); exact BK316.out) hb)
           have n1_ := Aside0.mk (blk_below (g := gb317) (o := .cells #[.int .i64 a1_0, .int .i64 a1_1] 24 (0, 0)) (by (with_reducible repeat (first | refine blk_drewN ?_ _ | refine blk_drew ?_ | refine blk_alloc ?_ _)); exact BK317.out) hb)
           have n2_ := Aside0.mk (blk_below (g := gb324) (o := .cells #[.int .i64 0, .int .i64 0] 24 (0, 0)) (by (with_reducible repeat (first | refine blk_drewN ?_ _ | refine blk_drew ?_ | refine blk_alloc ?_ _)); exact BK324.out) hb)
           have n3_ := Aside0.mk (below_step (by repeat (first | (with_reducible first | exact HB.out | apply below_alloc | apply pw_below_drewN | apply below_drew1 | refine below_set ?_ GE316.out | refine below_set ?_ GE317.out | refine below_set ?_ GE324.out) | exact HB.out)) hb)
           clear BK316
           clear BK317
           clear BK324
           clear HB
           have BK316 := n0_
           have BK317 := n1_
           have BK324 := n2_
           have HB := n3_
           clear n0_ n1_ n2_ n3_
           (try clear hb)
           (try clear hb2)
           (try clear hk)
           (try clear hi)
           refine hK.out _ _ ⟨(blk_cell BK316.out 0).trans rfl, (blk_cell BK316.out 1).trans rfl, (blk_cell BK317.out 0).trans rfl, (blk_cell BK317.out 1).trans rfl⟩ (fun hHeld => ?_)
           clear hK K
           refine norm_ (a' := ?_) ?_ ?_
           rotate_left
           ·show Act.put _ (some 48) _ = _
            simp only [Act.put, List.setIfInBounds_toArray, List.set_cons_zero, List.set_cons_succ, i64_w, i32_w]
            rfl
           exact norm_ (by first | (simp only [putAll, Act.put, List.setIfInBounds_toArray, List.set_cons_zero, List.set_cons_succ]; done) | (simp only [putAll, Act.put, List.setIfInBounds_toArray, List.set_cons_zero, List.set_cons_succ]; rfl)) (hJ2_5_6 (gb324) _ ⟨hHeld, (by (with_reducible repeat (first | refine blk_drewN ?_ _ | refine blk_drew ?_ | refine blk_alloc ?_ _)); exact BK316.out), (by (with_reducible repeat (first | refine blk_drewN ?_ _ | refine blk_drew ?_ | refine blk_alloc ?_ _)); exact BK317.out), (by (with_reducible repeat (first | refine blk_drewN ?_ _ | refine blk_drew ?_ | refine blk_alloc ?_ _)); exact BK324.out), GW324.out, GE324.out, NB316_324.out, NB324_316.out, NB317_324.out, NB324_317.out, (by repeat (first | (with_reducible first | exact HB.out | apply below_alloc | apply pw_below_drewN | apply below_drew1 | refine below_set ?_ GE316.out | refine below_set ?_ GE317.out | refine below_set ?_ GE324.out) | exact HB.out))⟩)
          ·skip
           refine box_step ?hg (N := 8) ?hd (cs := #[.int .i64 0, .int .i64 0]) (t := 24) ?hr ?_; (case hd => rfl); (case hg => rfl); (case hr => first | (go_simp; done) | (go_simp; rfl))
           intro gb325 hg w43 hbox hb
           have n0_ := Aside0.mk (blk_below (g := gb316) (o := .cells #[.int .i64 a0_0, .int .i64 a0_1] 24 (0, 0)) (by (with_reducible repeat (first | refine blk_drewN ?_ _ | refine blk_drew ?_ | refine blk_alloc ?_ _)); exact BK316.out) hb)
           have n1_ := Aside0.mk (blk_below (g := gb317) (o := .cells #[.int .i64 a1_0, .int .i64 a1_1] 24 (0, 0)) (by (with_reducible repeat (first | refine blk_drewN ?_ _ | refine blk_drew ?_ | refine blk_alloc ?_ _)); exact BK317.out) hb)
           have n2_ := Aside0.mk (blk_below (g := gb324) (o := .cells #[.int .i64 0, .int .i64 0] 24 (0, 0)) (by (with_reducible repeat (first | refine blk_drewN ?_ _ | refine blk_drew ?_ | refine blk_alloc ?_ _)); exact BK324.out) hb)
           have n3_ := Aside0.mk (below_step (by repeat (first | (with_reducible first | exact HB.out | apply below_alloc | apply pw_below_drewN | apply below_drew1 | refine below_set ?_ GE316.out | refine below_set ?_ GE317.out | refine below_set ?_ GE324.out) | exact HB.out)) hb)
           have n4_ := Aside0.mk (hbox)
           have n5_ := Aside0.mk ((by rw [hg]; exact (below_size (by repeat (first | (with_reducible first | exact HB.out | apply below_alloc | apply pw_below_drewN | apply below_drew1 | refine below_set ?_ GE316.out | refine below_set ?_ GE317.out | refine below_set ?_ GE324.out) | exact HB.out))) : w.heap.size ≤ gb325))
           have n6_ := Aside0.mk ((by rw [hg]; exact (below_size (by repeat (first | (with_reducible first | exact HB.out | apply below_alloc | apply pw_below_drewN | apply below_drew1 | refine below_set ?_ GE316.out | refine below_set ?_ GE317.out | refine below_set ?_ GE324.out) | exact HB.out))) : w.heap.size ≤ gb325))
           have n7_ := Aside0.mk ((by rw [hg]; exact Nat.ne_of_lt (blk_lt (g := gb316) (o := .cells #[.int .i64 a0_0, .int .i64 a0_1] 24 (0, 0)) (by (with_reducible repeat (first | refine blk_drewN ?_ _ | refine blk_drew ?_ | refine blk_alloc ?_ _)); exact BK316.out)) : gb316 ≠ gb325))
           have n8_ := Aside0.mk ((by rw [hg]; exact Nat.ne_of_gt (blk_lt (g := gb316) (o := .cells #[.int .i64 a0_0, .int .i64 a0_1] 24 (0, 0)) (by (with_reducible repeat (first | refine blk_drewN ?_ _ | refine blk_drew ?_ | refine blk_alloc ?_ _)); exact BK316.out)) : gb325 ≠ gb316))
           have n9_ := Aside0.mk ((by rw [hg]; exact Nat.ne_of_lt (blk_lt (g := gb317) (o := .cells #[.int .i64 a1_0, .int .i64 a1_1] 24 (0, 0)) (by (with_reducible repeat (first | refine blk_drewN ?_ _ | refine blk_drew ?_ | refine blk_alloc ?_ _)); exact BK317.out)) : gb317 ≠ gb325))
           have n10_ := Aside0.mk ((by rw [hg]; exact Nat.ne_of_gt (blk_lt (g := gb317) (o := .cells #[.int .i64 a1_0, .int .i64 a1_1] 24 (0, 0)) (by (with_reducible repeat (first | refine blk_drewN ?_ _ | refine blk_drew ?_ | refine blk_alloc ?_ _)); exact BK317.out)) : gb325 ≠ gb317))
           have n11_ := Aside0.mk ((by rw [hg]; exact Nat.ne_of_lt (blk_lt (g := gb324) (o := .cells #[.int .i64 0, .int .i64 0] 24 (0, 0)) (by (with_reducible repeat (first | refine blk_drewN ?_ _ | refine blk_drew ?_ | refine blk_alloc ?_ _)); exact BK324.out)) : gb324 ≠ gb325))
           have n12_ := Aside0.mk ((by rw [hg]; exact Nat.ne_of_gt (blk_lt (g := gb324) (o := .cells #[.int .i64 0, .int .i64 0] 24 (0, 0)) (by (with_reducible repeat (first | refine blk_drewN ?_ _ | refine blk_drew ?_ | refine blk_alloc ?_ _)); exact BK324.out)) : gb325 ≠ gb324))
           clear BK316
           clear BK317
           clear BK324
           clear HB
           have BK316 := n0_
           have BK317 := n1_
           have BK324 := n2_
           have HB := n3_
           have BK325 := n4_
           have GW325 := n5_
           have GE325 := n6_
           have NB316_325 := n7_
           have NB325_316 := n8_
           have NB317_325 := n9_
           have NB325_317 := n10_
           have NB324_325 := n11_
           have NB325_324 := n12_
           clear n0_ n1_ n2_ n3_ n4_ n5_ n6_ n7_ n8_ n9_ n10_ n11_ n12_
           clear hb hbox hg
           refine hK.out _ _ ⟨(blk_cell BK316.out 0).trans rfl, (blk_cell BK316.out 1).trans rfl, (blk_cell BK317.out 0).trans rfl, (blk_cell BK317.out 1).trans rfl⟩ (fun hHeld => ?_)
           clear hK K
           refine norm_ (a' := ?_) ?_ ?_
           rotate_left
           ·show Act.put _ (some 8) _ = _
            simp only [Act.put, List.setIfInBounds_toArray, List.set_cons_zero, List.set_cons_succ, i64_w, i32_w]
            rfl
           exact norm_ (by first | (simp only [putAll, Act.put, List.setIfInBounds_toArray, List.set_cons_zero, List.set_cons_succ]; done) | (simp only [putAll, Act.put, List.setIfInBounds_toArray, List.set_cons_zero, List.set_cons_succ]; rfl)) (hJ2_6_7 (gb324, gb325) _ ⟨hHeld, (by (with_reducible repeat (first | refine blk_drewN ?_ _ | refine blk_drew ?_ | refine blk_alloc ?_ _)); exact BK316.out), (by (with_reducible repeat (first | refine blk_drewN ?_ _ | refine blk_drew ?_ | refine blk_alloc ?_ _)); exact BK317.out), (by (with_reducible repeat (first | refine blk_drewN ?_ _ | refine blk_drew ?_ | refine blk_alloc ?_ _)); exact BK324.out), (by (with_reducible repeat (first | refine blk_drewN ?_ _ | refine blk_drew ?_ | refine blk_alloc ?_ _)); exact BK325.out), GW324.out, GE324.out, NB316_324.out, NB324_316.out, NB317_324.out, NB324_317.out, NB325_324.out, NB324_325.out, GW325.out, GE325.out, NB316_325.out, NB325_316.out, NB317_325.out, NB325_317.out, (by repeat (first | (with_reducible first | exact HB.out | apply below_alloc | apply pw_below_drewN | apply below_drew1 | refine below_set ?_ GE316.out | refine below_set ?_ GE317.out | refine below_set ?_ GE324.out | refine below_set ?_ GE325.out) | exact HB.out))⟩)
        ·skip
         rintro _ w42 ⟨hS_, h0_, h1_, h2_⟩
         have n0_ : Aside0 (w42.heap[gb316]? = some (.cells #[.int .i64 a0_0, .int .i64 a0_1] 24 (0, 0))) := ⟨h0_⟩
         have n1_ : Aside0 (w42.heap[gb317]? = some (.cells #[.int .i64 a1_0, .int .i64 a1_1] 24 (0, 0))) := ⟨h1_⟩
         have n2_ : Aside0 (Below w.heap.size w w42) := ⟨h2_⟩
         clear BK316
         clear BK317
         clear HB
         clear h0_ h1_ h2_
         have BK316 := n0_
         have BK317 := n1_
         have HB := n2_
         clear n0_ n1_ n2_
         have hHeld : w42.cell? ⟨gb316, 0, none⟩ = some (.int .i64 a0_0) ∧ w42.cell? ⟨gb316, 1, none⟩ = some (.int .i64 a0_1) ∧ w42.cell? ⟨gb317, 0, none⟩ = some (.int .i64 a1_0) ∧ w42.cell? ⟨gb317, 1, none⟩ = some (.int .i64 a1_1) := hS_
         refine norm_ (a' := ?_) ?_ ?_
         rotate_left
         ·simp only [putAll, Act.put, List.setIfInBounds_toArray, List.set_cons_zero, List.set_cons_succ]
          rfl
         refine two_ (i := 6) (j := 7) (Ni := some 7) (Nj := some 8) #[true, true, true, true, true, true, true, false, false, false] #[true, true, true, true, true, true, false, true, false, false] rfl rfl rfl rfl (two_of HT_.out (by kernel_rfl)) (by decide) (by decide) (fun K hK => ?_) (fun K hK => ?_)
         ·skip
          refine box_step ?hg (N := 7) ?hd (cs := #[.int .i64 0, .int .i64 0]) (t := 24) ?hr ?_; (case hd => rfl); (case hg => rfl); (case hr => first | (go_simp; done) | (go_simp; rfl))
          intro gb324 hg w43 hbox hb
          have n0_ := Aside0.mk (blk_below (g := gb316) (o := .cells #[.int .i64 a0_0, .int .i64 a0_1] 24 (0, 0)) (by (with_reducible repeat (first | refine blk_drewN ?_ _ | refine blk_drew ?_ | refine blk_alloc ?_ _)); exact BK316.out) hb)
          have n1_ := Aside0.mk (blk_below (g := gb317) (o := .cells #[.int .i64 a1_0, .int .i64 a1_1] 24 (0, 0)) (by (with_reducible repeat (first | refine blk_drewN ?_ _ | refine blk_drew ?_ | refine blk_alloc ?_ _)); exact BK317.out) hb)
          have n2_ := Aside0.mk (below_step (by repeat (first | (with_reducible first | exact HB.out | apply below_alloc | apply pw_below_drewN | apply below_drew1 | refine below_set ?_ GE316.out | refine below_set ?_ GE317.out) | exact HB.out)) hb)
          have n3_ := Aside0.mk (hbox)
          have n4_ := Aside0.mk ((by rw [hg]; exact (below_size (by repeat (first | (with_reducible first | exact HB.out | apply below_alloc | apply pw_below_drewN | apply below_drew1 | refine below_set ?_ GE316.out | refine below_set ?_ GE317.out) | exact HB.out))) : w.heap.size ≤ gb324))
          have n5_ := Aside0.mk ((by rw [hg]; exact (below_size (by repeat (first | (with_reducible first | exact HB.out | apply below_alloc | apply pw_below_drewN | apply below_drew1 | refine below_set ?_ GE316.out | refine below_set ?_ GE317.out) | exact HB.out))) : w.heap.size ≤ gb324))
          have n6_ := Aside0.mk ((by rw [hg]; exact Nat.ne_of_lt (blk_lt (g := gb316) (o := .cells #[.int .i64 a0_0, .int .i64 a0_1] 24 (0, 0)) (by (with_reducible repeat (first | refine blk_drewN ?_ _ | refine blk_drew ?_ | refine blk_alloc ?_ _)); exact BK316.out)) : gb316 ≠ gb324))
          have n7_ := Aside0.mk ((by rw [hg]; exact Nat.ne_of_gt (blk_lt (g := gb316) (o := .cells #[.int .i64 a0_0, .int .i64 a0_1] 24 (0, 0)) (by (with_reducible repeat (first | refine blk_drewN ?_ _ | refine blk_drew ?_ | refine blk_alloc ?_ _)); exact BK316.out)) : gb324 ≠ gb316))
          have n8_ := Aside0.mk ((by rw [hg]; exact Nat.ne_of_lt (blk_lt (g := gb317) (o := .cells #[.int .i64 a1_0, .int .i64 a1_1] 24 (0, 0)) (by (with_reducible repeat (first | refine blk_drewN ?_ _ | refine blk_drew ?_ | refine blk_alloc ?_ _)); exact BK317.out)) : gb317 ≠ gb324))
          have n9_ := Aside0.mk ((by rw [hg]; exact Nat.ne_of_gt (blk_lt (g := gb317) (o := .cells #[.int .i64 a1_0, .int .i64 a1_1] 24 (0, 0)) (by (with_reducible repeat (first | refine blk_drewN ?_ _ | refine blk_drew ?_ | refine blk_alloc ?_ _)); exact BK317.out)) : gb324 ≠ gb317))
          clear BK316
          clear BK317
          clear HB
          have BK316 := n0_
          have BK317 := n1_
          have HB := n2_
          have BK324 := n3_
          have GW324 := n4_
          have GE324 := n5_
          have NB316_324 := n6_
          have NB324_316 := n7_
          have NB317_324 := n8_
          have NB324_317 := n9_
          clear n0_ n1_ n2_ n3_ n4_ n5_ n6_ n7_ n8_ n9_
          clear hb hbox hg
          refine hK.out _ _ ⟨(blk_cell BK316.out 0).trans rfl, (blk_cell BK316.out 1).trans rfl, (blk_cell BK317.out 0).trans rfl, (blk_cell BK317.out 1).trans rfl⟩ (fun hHeld => ?_)
          clear hK K
          refine norm_ (a' := ?_) ?_ ?_
          rotate_left
          ·show Act.put _ (some 7) _ = _
           simp only [Act.put, List.setIfInBounds_toArray, List.set_cons_zero, List.set_cons_succ, i64_w, i32_w]
           rfl
          exact norm_ (by first | (simp only [putAll, Act.put, List.setIfInBounds_toArray, List.set_cons_zero, List.set_cons_succ]; done) | (simp only [putAll, Act.put, List.setIfInBounds_toArray, List.set_cons_zero, List.set_cons_succ]; rfl)) (hJ2_5_6 (gb324) _ ⟨hHeld, (by (with_reducible repeat (first | refine blk_drewN ?_ _ | refine blk_drew ?_ | refine blk_alloc ?_ _)); exact BK316.out), (by (with_reducible repeat (first | refine blk_drewN ?_ _ | refine blk_drew ?_ | refine blk_alloc ?_ _)); exact BK317.out), (by (with_reducible repeat (first | refine blk_drewN ?_ _ | refine blk_drew ?_ | refine blk_alloc ?_ _)); exact BK324.out), GW324.out, GE324.out, NB316_324.out, NB324_316.out, NB317_324.out, NB324_317.out, (by repeat (first | (with_reducible first | exact HB.out | apply below_alloc | apply pw_below_drewN | apply below_drew1 | refine below_set ?_ GE316.out | refine below_set ?_ GE317.out | refine below_set ?_ GE324.out) | exact HB.out))⟩)
         ·skip
          refine box_step ?hg (N := 8) ?hd (cs := #[.int .i64 0, .int .i64 0]) (t := 24) ?hr ?_; (case hd => rfl); (case hg => rfl); (case hr => first | (go_simp; done) | (go_simp; rfl))
          intro gb325 hg w43 hbox hb
          have n0_ := Aside0.mk (blk_below (g := gb316) (o := .cells #[.int .i64 a0_0, .int .i64 a0_1] 24 (0, 0)) (by (with_reducible repeat (first | refine blk_drewN ?_ _ | refine blk_drew ?_ | refine blk_alloc ?_ _)); exact BK316.out) hb)
          have n1_ := Aside0.mk (blk_below (g := gb317) (o := .cells #[.int .i64 a1_0, .int .i64 a1_1] 24 (0, 0)) (by (with_reducible repeat (first | refine blk_drewN ?_ _ | refine blk_drew ?_ | refine blk_alloc ?_ _)); exact BK317.out) hb)
          have n2_ := Aside0.mk (below_step (by repeat (first | (with_reducible first | exact HB.out | apply below_alloc | apply pw_below_drewN | apply below_drew1 | refine below_set ?_ GE316.out | refine below_set ?_ GE317.out) | exact HB.out)) hb)
          have n3_ := Aside0.mk (hbox)
          have n4_ := Aside0.mk ((by rw [hg]; exact (below_size (by repeat (first | (with_reducible first | exact HB.out | apply below_alloc | apply pw_below_drewN | apply below_drew1 | refine below_set ?_ GE316.out | refine below_set ?_ GE317.out) | exact HB.out))) : w.heap.size ≤ gb325))
          have n5_ := Aside0.mk ((by rw [hg]; exact (below_size (by repeat (first | (with_reducible first | exact HB.out | apply below_alloc | apply pw_below_drewN | apply below_drew1 | refine below_set ?_ GE316.out | refine below_set ?_ GE317.out) | exact HB.out))) : w.heap.size ≤ gb325))
          have n6_ := Aside0.mk ((by rw [hg]; exact Nat.ne_of_lt (blk_lt (g := gb316) (o := .cells #[.int .i64 a0_0, .int .i64 a0_1] 24 (0, 0)) (by (with_reducible repeat (first | refine blk_drewN ?_ _ | refine blk_drew ?_ | refine blk_alloc ?_ _)); exact BK316.out)) : gb316 ≠ gb325))
          have n7_ := Aside0.mk ((by rw [hg]; exact Nat.ne_of_gt (blk_lt (g := gb316) (o := .cells #[.int .i64 a0_0, .int .i64 a0_1] 24 (0, 0)) (by (with_reducible repeat (first | refine blk_drewN ?_ _ | refine blk_drew ?_ | refine blk_alloc ?_ _)); exact BK316.out)) : gb325 ≠ gb316))
          have n8_ := Aside0.mk ((by rw [hg]; exact Nat.ne_of_lt (blk_lt (g := gb317) (o := .cells #[.int .i64 a1_0, .int .i64 a1_1] 24 (0, 0)) (by (with_reducible repeat (first | refine blk_drewN ?_ _ | refine blk_drew ?_ | refine blk_alloc ?_ _)); exact BK317.out)) : gb317 ≠ gb325))
          have n9_ := Aside0.mk ((by rw [hg]; exact Nat.ne_of_gt (blk_lt (g := gb317) (o := .cells #[.int .i64 a1_0, .int .i64 a1_1] 24 (0, 0)) (by (with_reducible repeat (first | refine blk_drewN ?_ _ | refine blk_drew ?_ | refine blk_alloc ?_ _)); exact BK317.out)) : gb325 ≠ gb317))
          clear BK316
          clear BK317
          clear HB
          have BK316 := n0_
          have BK317 := n1_
          have HB := n2_
          have BK325 := n3_
          have GW325 := n4_
          have GE325 := n5_
          have NB316_325 := n6_
          have NB325_316 := n7_
          have NB317_325 := n8_
          have NB325_317 := n9_
          clear n0_ n1_ n2_ n3_ n4_ n5_ n6_ n7_ n8_ n9_
          clear hb hbox hg
          refine hK.out _ _ ⟨(blk_cell BK316.out 0).trans rfl, (blk_cell BK316.out 1).trans rfl, (blk_cell BK317.out 0).trans rfl, (blk_cell BK317.out 1).trans rfl⟩ (fun hHeld => ?_)
          clear hK K
          refine norm_ (a' := ?_) ?_ ?_
          rotate_left
          ·show Act.put _ (some 8) _ = _
           simp only [Act.put, List.setIfInBounds_toArray, List.set_cons_zero, List.set_cons_succ, i64_w, i32_w]
           rfl
          exact norm_ (by first | (simp only [putAll, Act.put, List.setIfInBounds_toArray, List.set_cons_zero, List.set_cons_succ]; done) | (simp only [putAll, Act.put, List.setIfInBounds_toArray, List.set_cons_zero, List.set_cons_succ]; rfl)) (hJ2_5_7 (gb325) _ ⟨hHeld, (by (with_reducible repeat (first | refine blk_drewN ?_ _ | refine blk_drew ?_ | refine blk_alloc ?_ _)); exact BK316.out), (by (with_reducible repeat (first | refine blk_drewN ?_ _ | refine blk_drew ?_ | refine blk_alloc ?_ _)); exact BK317.out), (by (with_reducible repeat (first | refine blk_drewN ?_ _ | refine blk_drew ?_ | refine blk_alloc ?_ _)); exact BK325.out), GW325.out, GE325.out, NB316_325.out, NB325_316.out, NB317_325.out, NB325_317.out, (by repeat (first | (with_reducible first | exact HB.out | apply below_alloc | apply pw_below_drewN | apply below_drew1 | refine below_set ?_ GE316.out | refine below_set ?_ GE317.out | refine below_set ?_ GE325.out) | exact HB.out))⟩)
       ·skip
        rintro ⟨gb324, gb325⟩ w43 ⟨hS_, h0_, h1_, h2_, h3_, h4_, h5_, h6_, h7_, h8_, h9_, h10_, h11_, h12_, h13_, h14_, h15_, h16_, h17_, h18_⟩
        have n0_ : Aside0 (w43.heap[gb316]? = some (.cells #[.int .i64 a0_0, .int .i64 a0_1] 24 (0, 0))) := ⟨h0_⟩
        have n1_ : Aside0 (w43.heap[gb317]? = some (.cells #[.int .i64 a1_0, .int .i64 a1_1] 24 (0, 0))) := ⟨h1_⟩
        have n2_ : Aside0 (w43.heap[gb324]? = some (.cells #[.int .i64 0, .int .i64 0] 24 (0, 0))) := ⟨h2_⟩
        have n3_ : Aside0 (w43.heap[gb325]? = some (.cells #[.int .i64 0, .int .i64 0] 24 (0, 0))) := ⟨h3_⟩
        have n4_ : Aside0 (w.heap.size ≤ gb324) := ⟨h4_⟩
        have n5_ : Aside0 (w.heap.size ≤ gb324) := ⟨h5_⟩
        have n6_ : Aside0 (gb316 ≠ gb324) := ⟨h6_⟩
        have n7_ : Aside0 (gb324 ≠ gb316) := ⟨h7_⟩
        have n8_ : Aside0 (gb317 ≠ gb324) := ⟨h8_⟩
        have n9_ : Aside0 (gb324 ≠ gb317) := ⟨h9_⟩
        have n10_ : Aside0 (gb325 ≠ gb324) := ⟨h10_⟩
        have n11_ : Aside0 (gb324 ≠ gb325) := ⟨h11_⟩
        have n12_ : Aside0 (w.heap.size ≤ gb325) := ⟨h12_⟩
        have n13_ : Aside0 (w.heap.size ≤ gb325) := ⟨h13_⟩
        have n14_ : Aside0 (gb316 ≠ gb325) := ⟨h14_⟩
        have n15_ : Aside0 (gb325 ≠ gb316) := ⟨h15_⟩
        have n16_ : Aside0 (gb317 ≠ gb325) := ⟨h16_⟩
        have n17_ : Aside0 (gb325 ≠ gb317) := ⟨h17_⟩
        have n18_ : Aside0 (Below w.heap.size w w43) := ⟨h18_⟩
        clear BK316
        clear BK317
        clear HB
        clear h0_ h1_ h2_ h3_ h4_ h5_ h6_ h7_ h8_ h9_ h10_ h11_ h12_ h13_ h14_ h15_ h16_ h17_ h18_
        have BK316 := n0_
        have BK317 := n1_
        have BK324 := n2_
        have BK325 := n3_
        have GW324 := n4_
        have GE324 := n5_
        have NB316_324 := n6_
        have NB324_316 := n7_
        have NB317_324 := n8_
        have NB324_317 := n9_
        have NB325_324 := n10_
        have NB324_325 := n11_
        have GW325 := n12_
        have GE325 := n13_
        have NB316_325 := n14_
        have NB325_316 := n15_
        have NB317_325 := n16_
        have NB325_317 := n17_
        have HB := n18_
        clear n0_ n1_ n2_ n3_ n4_ n5_ n6_ n7_ n8_ n9_ n10_ n11_ n12_ n13_ n14_ n15_ n16_ n17_ n18_
        have hHeld : w43.cell? ⟨gb316, 0, none⟩ = some (.int .i64 a0_0) ∧ w43.cell? ⟨gb316, 1, none⟩ = some (.int .i64 a0_1) ∧ w43.cell? ⟨gb317, 0, none⟩ = some (.int .i64 a1_0) ∧ w43.cell? ⟨gb317, 1, none⟩ = some (.int .i64 a1_1) := hS_
        refine norm_ (a' := ?_) ?_ ?_
        rotate_left
        ·simp only [putAll, Act.put, List.setIfInBounds_toArray, List.set_cons_zero, List.set_cons_succ]
         rfl
        refine one_ (i := 5) (N := some 48) #[true, true, true, true, true, true, true, true, false, false] rfl rfl (one_of HT_.out (by kernel_rfl)) (by decide) (fun K hK => ?_)
        refine goes_ Try.func20 (by kernel_rfl) rfl #[.agg #[.int .i64 a1_0, .int .i64 a1_1], .agg #[.int .i64 a0_0, .int .i64 a0_1]] (by rfl) rfl rfl (by (try simp only [List.map_toArray, List.map_cons, List.map_nil]); first | done | rfl | (simp only [List.length_drop, List.length_take]; rfl)) ?_
        with_reducible refine (impl_RangeBoth.calls a1_0 a1_1 a0_0 a0_1 t322 t323 _ A36.out).mono ?_
        rintro e w44 ⟨rfl, hb⟩
        refine ⟨_, rfl, ?_⟩
        have n0_ := Aside0.mk (blk_below (g := gb316) (o := .cells #[.int .i64 a0_0, .int .i64 a0_1] 24 (0, 0)) (by (with_reducible repeat (first | refine blk_drewN ?_ _ | refine blk_drew ?_ | refine blk_alloc ?_ _)); exact BK316.out) hb)
        have n1_ := Aside0.mk (blk_below (g := gb317) (o := .cells #[.int .i64 a1_0, .int .i64 a1_1] 24 (0, 0)) (by (with_reducible repeat (first | refine blk_drewN ?_ _ | refine blk_drew ?_ | refine blk_alloc ?_ _)); exact BK317.out) hb)
        have n2_ := Aside0.mk (blk_below (g := gb324) (o := .cells #[.int .i64 0, .int .i64 0] 24 (0, 0)) (by (with_reducible repeat (first | refine blk_drewN ?_ _ | refine blk_drew ?_ | refine blk_alloc ?_ _)); exact BK324.out) hb)
        have n3_ := Aside0.mk (blk_below (g := gb325) (o := .cells #[.int .i64 0, .int .i64 0] 24 (0, 0)) (by (with_reducible repeat (first | refine blk_drewN ?_ _ | refine blk_drew ?_ | refine blk_alloc ?_ _)); exact BK325.out) hb)
        have n4_ := Aside0.mk (below_step (by repeat (first | (with_reducible first | exact HB.out | apply below_alloc | apply pw_below_drewN | apply below_drew1 | refine below_set ?_ GE316.out | refine below_set ?_ GE317.out | refine below_set ?_ GE324.out | refine below_set ?_ GE325.out) | exact HB.out)) hb)
        clear BK316
        clear BK317
        clear BK324
        clear BK325
        clear HB
        have BK316 := n0_
        have BK317 := n1_
        have BK324 := n2_
        have BK325 := n3_
        have HB := n4_
        clear n0_ n1_ n2_ n3_ n4_
        (try clear hb)
        (try clear hb2)
        (try clear hk)
        (try clear hi)
        refine hK.out _ _ ⟨(blk_cell BK316.out 0).trans rfl, (blk_cell BK316.out 1).trans rfl, (blk_cell BK317.out 0).trans rfl, (blk_cell BK317.out 1).trans rfl⟩ (fun hHeld => ?_)
        clear hK K
        refine norm_ (a' := ?_) ?_ ?_
        rotate_left
        ·show Act.put _ (some 48) _ = _
         simp only [Act.put, List.setIfInBounds_toArray, List.set_cons_zero, List.set_cons_succ, i64_w, i32_w]
         rfl
        exact norm_ (by first | (simp only [putAll, Act.put, List.setIfInBounds_toArray, List.set_cons_zero, List.set_cons_succ]; done) | (simp only [putAll, Act.put, List.setIfInBounds_toArray, List.set_cons_zero, List.set_cons_succ]; rfl)) (hJ2_5_6_7 (gb324, gb325) _ ⟨hHeld, (by (with_reducible repeat (first | refine blk_drewN ?_ _ | refine blk_drew ?_ | refine blk_alloc ?_ _)); exact BK316.out), (by (with_reducible repeat (first | refine blk_drewN ?_ _ | refine blk_drew ?_ | refine blk_alloc ?_ _)); exact BK317.out), (by (with_reducible repeat (first | refine blk_drewN ?_ _ | refine blk_drew ?_ | refine blk_alloc ?_ _)); exact BK324.out), (by (with_reducible repeat (first | refine blk_drewN ?_ _ | refine blk_drew ?_ | refine blk_alloc ?_ _)); exact BK325.out), GW324.out, GE324.out, NB316_324.out, NB324_316.out, NB317_324.out, NB324_317.out, NB325_324.out, NB324_325.out, GW325.out, GE325.out, NB316_325.out, NB325_316.out, NB317_325.out, NB325_317.out, (by repeat (first | (with_reducible first | exact HB.out | apply below_alloc | apply pw_below_drewN | apply below_drew1 | refine below_set ?_ GE316.out | refine below_set ?_ GE317.out | refine below_set ?_ GE324.out | refine below_set ?_ GE325.out) | exact HB.out))⟩)
      ·skip
       rintro gb325 w43 ⟨hS_, h0_, h1_, h2_, h3_, h4_, h5_, h6_, h7_, h8_, h9_⟩
       have n0_ : Aside0 (w43.heap[gb316]? = some (.cells #[.int .i64 a0_0, .int .i64 a0_1] 24 (0, 0))) := ⟨h0_⟩
       have n1_ : Aside0 (w43.heap[gb317]? = some (.cells #[.int .i64 a1_0, .int .i64 a1_1] 24 (0, 0))) := ⟨h1_⟩
       have n2_ : Aside0 (w43.heap[gb325]? = some (.cells #[.int .i64 0, .int .i64 0] 24 (0, 0))) := ⟨h2_⟩
       have n3_ : Aside0 (w.heap.size ≤ gb325) := ⟨h3_⟩
       have n4_ : Aside0 (w.heap.size ≤ gb325) := ⟨h4_⟩
       have n5_ : Aside0 (gb316 ≠ gb325) := ⟨h5_⟩
       have n6_ : Aside0 (gb325 ≠ gb316) := ⟨h6_⟩
       have n7_ : Aside0 (gb317 ≠ gb325) := ⟨h7_⟩
       have n8_ : Aside0 (gb325 ≠ gb317) := ⟨h8_⟩
       have n9_ : Aside0 (Below w.heap.size w w43) := ⟨h9_⟩
       clear BK316
       clear BK317
       clear HB
       clear h0_ h1_ h2_ h3_ h4_ h5_ h6_ h7_ h8_ h9_
       have BK316 := n0_
       have BK317 := n1_
       have BK325 := n2_
       have GW325 := n3_
       have GE325 := n4_
       have NB316_325 := n5_
       have NB325_316 := n6_
       have NB317_325 := n7_
       have NB325_317 := n8_
       have HB := n9_
       clear n0_ n1_ n2_ n3_ n4_ n5_ n6_ n7_ n8_ n9_
       have hHeld : w43.cell? ⟨gb316, 0, none⟩ = some (.int .i64 a0_0) ∧ w43.cell? ⟨gb316, 1, none⟩ = some (.int .i64 a0_1) ∧ w43.cell? ⟨gb317, 0, none⟩ = some (.int .i64 a1_0) ∧ w43.cell? ⟨gb317, 1, none⟩ = some (.int .i64 a1_1) := hS_
       refine norm_ (a' := ?_) ?_ ?_
       rotate_left
       ·simp only [putAll, Act.put, List.setIfInBounds_toArray, List.set_cons_zero, List.set_cons_succ]
        rfl
       refine one_ (i := 6) (N := some 7) #[true, true, true, true, true, true, true, true, false, false] rfl rfl (one_of HT_.out (by kernel_rfl)) (by decide) (fun K hK => ?_)
       refine box_step ?hg (N := 7) ?hd (cs := #[.int .i64 0, .int .i64 0]) (t := 24) ?hr ?_; (case hd => rfl); (case hg => rfl); (case hr => first | (go_simp; done) | (go_simp; rfl))
       intro gb324 hg w44 hbox hb
       have n0_ := Aside0.mk (blk_below (g := gb316) (o := .cells #[.int .i64 a0_0, .int .i64 a0_1] 24 (0, 0)) (by (with_reducible repeat (first | refine blk_drewN ?_ _ | refine blk_drew ?_ | refine blk_alloc ?_ _)); exact BK316.out) hb)
       have n1_ := Aside0.mk (blk_below (g := gb317) (o := .cells #[.int .i64 a1_0, .int .i64 a1_1] 24 (0, 0)) (by (with_reducible repeat (first | refine blk_drewN ?_ _ | refine blk_drew ?_ | refine blk_alloc ?_ _)); exact BK317.out) hb)
       have n2_ := Aside0.mk (blk_below (g := gb325) (o := .cells #[.int .i64 0, .int .i64 0] 24 (0, 0)) (by (with_reducible repeat (first | refine blk_drewN ?_ _ | refine blk_drew ?_ | refine blk_alloc ?_ _)); exact BK325.out) hb)
       have n3_ := Aside0.mk (below_step (by repeat (first | (with_reducible first | exact HB.out | apply below_alloc | apply pw_below_drewN | apply below_drew1 | refine below_set ?_ GE316.out | refine below_set ?_ GE317.out | refine below_set ?_ GE325.out) | exact HB.out)) hb)
       have n4_ := Aside0.mk (hbox)
       have n5_ := Aside0.mk ((by rw [hg]; exact (below_size (by repeat (first | (with_reducible first | exact HB.out | apply below_alloc | apply pw_below_drewN | apply below_drew1 | refine below_set ?_ GE316.out | refine below_set ?_ GE317.out | refine below_set ?_ GE325.out) | exact HB.out))) : w.heap.size ≤ gb324))
       have n6_ := Aside0.mk ((by rw [hg]; exact (below_size (by repeat (first | (with_reducible first | exact HB.out | apply below_alloc | apply pw_below_drewN | apply below_drew1 | refine below_set ?_ GE316.out | refine below_set ?_ GE317.out | refine below_set ?_ GE325.out) | exact HB.out))) : w.heap.size ≤ gb324))
       have n7_ := Aside0.mk ((by rw [hg]; exact Nat.ne_of_lt (blk_lt (g := gb316) (o := .cells #[.int .i64 a0_0, .int .i64 a0_1] 24 (0, 0)) (by (with_reducible repeat (first | refine blk_drewN ?_ _ | refine blk_drew ?_ | refine blk_alloc ?_ _)); exact BK316.out)) : gb316 ≠ gb324))
       have n8_ := Aside0.mk ((by rw [hg]; exact Nat.ne_of_gt (blk_lt (g := gb316) (o := .cells #[.int .i64 a0_0, .int .i64 a0_1] 24 (0, 0)) (by (with_reducible repeat (first | refine blk_drewN ?_ _ | refine blk_drew ?_ | refine blk_alloc ?_ _)); exact BK316.out)) : gb324 ≠ gb316))
       have n9_ := Aside0.mk ((by rw [hg]; exact Nat.ne_of_lt (blk_lt (g := gb317) (o := .cells #[.int .i64 a1_0, .int .i64 a1_1] 24 (0, 0)) (by (with_reducible repeat (first | refine blk_drewN ?_ _ | refine blk_drew ?_ | refine blk_alloc ?_ _)); exact BK317.out)) : gb317 ≠ gb324))
       have n10_ := Aside0.mk ((by rw [hg]; exact Nat.ne_of_gt (blk_lt (g := gb317) (o := .cells #[.int .i64 a1_0, .int .i64 a1_1] 24 (0, 0)) (by (with_reducible repeat (first | refine blk_drewN ?_ _ | refine blk_drew ?_ | refine blk_alloc ?_ _)); exact BK317.out)) : gb324 ≠ gb317))
       have n11_ := Aside0.mk ((by rw [hg]; exact Nat.ne_of_lt (blk_lt (g := gb325) (o := .cells #[.int .i64 0, .int .i64 0] 24 (0, 0)) (by (with_reducible repeat (first | refine blk_drewN ?_ _ | refine blk_drew ?_ | refine blk_alloc ?_ _)); exact BK325.out)) : gb325 ≠ gb324))
       have n12_ := Aside0.mk ((by rw [hg]; exact Nat.ne_of_gt (blk_lt (g := gb325) (o := .cells #[.int .i64 0, .int .i64 0] 24 (0, 0)) (by (with_reducible repeat (first | refine blk_drewN ?_ _ | refine blk_drew ?_ | refine blk_alloc ?_ _)); exact BK325.out)) : gb324 ≠ gb325))
       clear BK316
       clear BK317
       clear BK325
       clear HB
       have BK316 := n0_
       have BK317 := n1_
       have BK325 := n2_
       have HB := n3_
       have BK324 := n4_
       have GW324 := n5_
       have GE324 := n6_
       have NB316_324 := n7_
       have NB324_316 := n8_
       have NB317_324 := n9_
       have NB324_317 := n10_
       have NB325_324 := n11_
       have NB324_325 := n12_
       clear n0_ n1_ n2_ n3_ n4_ n5_ n6_ n7_ n8_ n9_ n10_ n11_ n12_
       clear hb hbox hg
       refine hK.out _ _ ⟨(blk_cell BK316.out 0).trans rfl, (blk_cell BK316.out 1).trans rfl, (blk_cell BK317.out 0).trans rfl, (blk_cell BK317.out 1).trans rfl⟩ (fun hHeld => ?_)
       clear hK K
       refine norm_ (a' := ?_) ?_ ?_
       rotate_left
       ·show Act.put _ (some 7) _ = _
        simp only [Act.put, List.setIfInBounds_toArray, List.set_cons_zero, List.set_cons_succ, i64_w, i32_w]
        rfl
       exact norm_ (by first | (simp only [putAll, Act.put, List.setIfInBounds_toArray, List.set_cons_zero, List.set_cons_succ]; done) | (simp only [putAll, Act.put, List.setIfInBounds_toArray, List.set_cons_zero, List.set_cons_succ]; rfl)) (hJ2_5_6_7 (gb324, gb325) _ ⟨hHeld, (by (with_reducible repeat (first | refine blk_drewN ?_ _ | refine blk_drew ?_ | refine blk_alloc ?_ _)); exact BK316.out), (by (with_reducible repeat (first | refine blk_drewN ?_ _ | refine blk_drew ?_ | refine blk_alloc ?_ _)); exact BK317.out), (by (with_reducible repeat (first | refine blk_drewN ?_ _ | refine blk_drew ?_ | refine blk_alloc ?_ _)); exact BK324.out), (by (with_reducible repeat (first | refine blk_drewN ?_ _ | refine blk_drew ?_ | refine blk_alloc ?_ _)); exact BK325.out), GW324.out, GE324.out, NB316_324.out, NB324_316.out, NB317_324.out, NB324_317.out, NB325_324.out, NB324_325.out, GW325.out, GE325.out, NB316_325.out, NB325_316.out, NB317_325.out, NB325_317.out, (by repeat (first | (with_reducible first | exact HB.out | apply below_alloc | apply pw_below_drewN | apply below_drew1 | refine below_set ?_ GE316.out | refine below_set ?_ GE317.out | refine below_set ?_ GE325.out | refine below_set ?_ GE324.out) | exact HB.out))⟩)
     ·skip
      rintro gb324 w43 ⟨hS_, h0_, h1_, h2_, h3_, h4_, h5_, h6_, h7_, h8_, h9_⟩
      have n0_ : Aside0 (w43.heap[gb316]? = some (.cells #[.int .i64 a0_0, .int .i64 a0_1] 24 (0, 0))) := ⟨h0_⟩
      have n1_ : Aside0 (w43.heap[gb317]? = some (.cells #[.int .i64 a1_0, .int .i64 a1_1] 24 (0, 0))) := ⟨h1_⟩
      have n2_ : Aside0 (w43.heap[gb324]? = some (.cells #[.int .i64 0, .int .i64 0] 24 (0, 0))) := ⟨h2_⟩
      have n3_ : Aside0 (w.heap.size ≤ gb324) := ⟨h3_⟩
      have n4_ : Aside0 (w.heap.size ≤ gb324) := ⟨h4_⟩
      have n5_ : Aside0 (gb316 ≠ gb324) := ⟨h5_⟩
      have n6_ : Aside0 (gb324 ≠ gb316) := ⟨h6_⟩
      have n7_ : Aside0 (gb317 ≠ gb324) := ⟨h7_⟩
      have n8_ : Aside0 (gb324 ≠ gb317) := ⟨h8_⟩
      have n9_ : Aside0 (Below w.heap.size w w43) := ⟨h9_⟩
      clear BK316
      clear BK317
      clear HB
      clear h0_ h1_ h2_ h3_ h4_ h5_ h6_ h7_ h8_ h9_
      have BK316 := n0_
      have BK317 := n1_
      have BK324 := n2_
      have GW324 := n3_
      have GE324 := n4_
      have NB316_324 := n5_
      have NB324_316 := n6_
      have NB317_324 := n7_
      have NB324_317 := n8_
      have HB := n9_
      clear n0_ n1_ n2_ n3_ n4_ n5_ n6_ n7_ n8_ n9_
      have hHeld : w43.cell? ⟨gb316, 0, none⟩ = some (.int .i64 a0_0) ∧ w43.cell? ⟨gb316, 1, none⟩ = some (.int .i64 a0_1) ∧ w43.cell? ⟨gb317, 0, none⟩ = some (.int .i64 a1_0) ∧ w43.cell? ⟨gb317, 1, none⟩ = some (.int .i64 a1_1) := hS_
      refine norm_ (a' := ?_) ?_ ?_
      rotate_left
      ·simp only [putAll, Act.put, List.setIfInBounds_toArray, List.set_cons_zero, List.set_cons_succ]
       rfl
      refine one_ (i := 7) (N := some 8) #[true, true, true, true, true, true, true, true, false, false] rfl rfl (one_of HT_.out (by kernel_rfl)) (by decide) (fun K hK => ?_)
      refine box_step ?hg (N := 8) ?hd (cs := #[.int .i64 0, .int .i64 0]) (t := 24) ?hr ?_; (case hd => rfl); (case hg => rfl); (case hr => first | (go_simp; done) | (go_simp; rfl))
      intro gb325 hg w44 hbox hb
      have n0_ := Aside0.mk (blk_below (g := gb316) (o := .cells #[.int .i64 a0_0, .int .i64 a0_1] 24 (0, 0)) (by (with_reducible repeat (first | refine blk_drewN ?_ _ | refine blk_drew ?_ | refine blk_alloc ?_ _)); exact BK316.out) hb)
      have n1_ := Aside0.mk (blk_below (g := gb317) (o := .cells #[.int .i64 a1_0, .int .i64 a1_1] 24 (0, 0)) (by (with_reducible repeat (first | refine blk_drewN ?_ _ | refine blk_drew ?_ | refine blk_alloc ?_ _)); exact BK317.out) hb)
      have n2_ := Aside0.mk (blk_below (g := gb324) (o := .cells #[.int .i64 0, .int .i64 0] 24 (0, 0)) (by (with_reducible repeat (first | refine blk_drewN ?_ _ | refine blk_drew ?_ | refine blk_alloc ?_ _)); exact BK324.out) hb)
      have n3_ := Aside0.mk (below_step (by repeat (first | (with_reducible first | exact HB.out | apply below_alloc | apply pw_below_drewN | apply below_drew1 | refine below_set ?_ GE316.out | refine below_set ?_ GE317.out | refine below_set ?_ GE324.out) | exact HB.out)) hb)
      have n4_ := Aside0.mk (hbox)
      have n5_ := Aside0.mk ((by rw [hg]; exact (below_size (by repeat (first | (with_reducible first | exact HB.out | apply below_alloc | apply pw_below_drewN | apply below_drew1 | refine below_set ?_ GE316.out | refine below_set ?_ GE317.out | refine below_set ?_ GE324.out) | exact HB.out))) : w.heap.size ≤ gb325))
      have n6_ := Aside0.mk ((by rw [hg]; exact (below_size (by repeat (first | (with_reducible first | exact HB.out | apply below_alloc | apply pw_below_drewN | apply below_drew1 | refine below_set ?_ GE316.out | refine below_set ?_ GE317.out | refine below_set ?_ GE324.out) | exact HB.out))) : w.heap.size ≤ gb325))
      have n7_ := Aside0.mk ((by rw [hg]; exact Nat.ne_of_lt (blk_lt (g := gb316) (o := .cells #[.int .i64 a0_0, .int .i64 a0_1] 24 (0, 0)) (by (with_reducible repeat (first | refine blk_drewN ?_ _ | refine blk_drew ?_ | refine blk_alloc ?_ _)); exact BK316.out)) : gb316 ≠ gb325))
      have n8_ := Aside0.mk ((by rw [hg]; exact Nat.ne_of_gt (blk_lt (g := gb316) (o := .cells #[.int .i64 a0_0, .int .i64 a0_1] 24 (0, 0)) (by (with_reducible repeat (first | refine blk_drewN ?_ _ | refine blk_drew ?_ | refine blk_alloc ?_ _)); exact BK316.out)) : gb325 ≠ gb316))
      have n9_ := Aside0.mk ((by rw [hg]; exact Nat.ne_of_lt (blk_lt (g := gb317) (o := .cells #[.int .i64 a1_0, .int .i64 a1_1] 24 (0, 0)) (by (with_reducible repeat (first | refine blk_drewN ?_ _ | refine blk_drew ?_ | refine blk_alloc ?_ _)); exact BK317.out)) : gb317 ≠ gb325))
      have n10_ := Aside0.mk ((by rw [hg]; exact Nat.ne_of_gt (blk_lt (g := gb317) (o := .cells #[.int .i64 a1_0, .int .i64 a1_1] 24 (0, 0)) (by (with_reducible repeat (first | refine blk_drewN ?_ _ | refine blk_drew ?_ | refine blk_alloc ?_ _)); exact BK317.out)) : gb325 ≠ gb317))
      have n11_ := Aside0.mk ((by rw [hg]; exact Nat.ne_of_lt (blk_lt (g := gb324) (o := .cells #[.int .i64 0, .int .i64 0] 24 (0, 0)) (by (with_reducible repeat (first | refine blk_drewN ?_ _ | refine blk_drew ?_ | refine blk_alloc ?_ _)); exact BK324.out)) : gb324 ≠ gb325))
      have n12_ := Aside0.mk ((by rw [hg]; exact Nat.ne_of_gt (blk_lt (g := gb324) (o := .cells #[.int .i64 0, .int .i64 0] 24 (0, 0)) (by (with_reducible repeat (first | refine blk_drewN ?_ _ | refine blk_drew ?_ | refine blk_alloc ?_ _)); exact BK324.out)) : gb325 ≠ gb324))
      clear BK316
      clear BK317
      clear BK324
      clear HB
      have BK316 := n0_
      have BK317 := n1_
      have BK324 := n2_
      have HB := n3_
      have BK325 := n4_
      have GW325 := n5_
      have GE325 := n6_
      have NB316_325 := n7_
      have NB325_316 := n8_
      have NB317_325 := n9_
      have NB325_317 := n10_
      have NB324_325 := n11_
      have NB325_324 := n12_
      clear n0_ n1_ n2_ n3_ n4_ n5_ n6_ n7_ n8_ n9_ n10_ n11_ n12_
      clear hb hbox hg
      refine hK.out _ _ ⟨(blk_cell BK316.out 0).trans rfl, (blk_cell BK316.out 1).trans rfl, (blk_cell BK317.out 0).trans rfl, (blk_cell BK317.out 1).trans rfl⟩ (fun hHeld => ?_)
      clear hK K
      refine norm_ (a' := ?_) ?_ ?_
      rotate_left
      ·show Act.put _ (some 8) _ = _
       simp only [Act.put, List.setIfInBounds_toArray, List.set_cons_zero, List.set_cons_succ, i64_w, i32_w]
       rfl
      exact norm_ (by first | (simp only [putAll, Act.put, List.setIfInBounds_toArray, List.set_cons_zero, List.set_cons_succ]; done) | (simp only [putAll, Act.put, List.setIfInBounds_toArray, List.set_cons_zero, List.set_cons_succ]; rfl)) (hJ2_5_6_7 (gb324, gb325) _ ⟨hHeld, (by (with_reducible repeat (first | refine blk_drewN ?_ _ | refine blk_drew ?_ | refine blk_alloc ?_ _)); exact BK316.out), (by (with_reducible repeat (first | refine blk_drewN ?_ _ | refine blk_drew ?_ | refine blk_alloc ?_ _)); exact BK317.out), (by (with_reducible repeat (first | refine blk_drewN ?_ _ | refine blk_drew ?_ | refine blk_alloc ?_ _)); exact BK324.out), (by (with_reducible repeat (first | refine blk_drewN ?_ _ | refine blk_drew ?_ | refine blk_alloc ?_ _)); exact BK325.out), GW324.out, GE324.out, NB316_324.out, NB324_316.out, NB317_324.out, NB324_317.out, NB325_324.out, NB324_325.out, GW325.out, GE325.out, NB316_325.out, NB325_316.out, NB317_325.out, NB325_317.out, (by repeat (first | (with_reducible first | exact HB.out | apply below_alloc | apply pw_below_drewN | apply below_drew1 | refine below_set ?_ GE316.out | refine below_set ?_ GE317.out | refine below_set ?_ GE324.out | refine below_set ?_ GE325.out) | exact HB.out))⟩)
    rintro ⟨gb324, gb325⟩ w44 ⟨hS_, h0_, h1_, h2_, h3_, h4_, h5_, h6_, h7_, h8_, h9_, h10_, h11_, h12_, h13_, h14_, h15_, h16_, h17_, h18_⟩
    have n0_ : Aside0 (w44.heap[gb316]? = some (.cells #[.int .i64 a0_0, .int .i64 a0_1] 24 (0, 0))) := ⟨h0_⟩
    have n1_ : Aside0 (w44.heap[gb317]? = some (.cells #[.int .i64 a1_0, .int .i64 a1_1] 24 (0, 0))) := ⟨h1_⟩
    have n2_ : Aside0 (w44.heap[gb324]? = some (.cells #[.int .i64 0, .int .i64 0] 24 (0, 0))) := ⟨h2_⟩
    have n3_ : Aside0 (w44.heap[gb325]? = some (.cells #[.int .i64 0, .int .i64 0] 24 (0, 0))) := ⟨h3_⟩
    have n4_ : Aside0 (w.heap.size ≤ gb324) := ⟨h4_⟩
    have n5_ : Aside0 (w.heap.size ≤ gb324) := ⟨h5_⟩
    have n6_ : Aside0 (gb316 ≠ gb324) := ⟨h6_⟩
    have n7_ : Aside0 (gb324 ≠ gb316) := ⟨h7_⟩
    have n8_ : Aside0 (gb317 ≠ gb324) := ⟨h8_⟩
    have n9_ : Aside0 (gb324 ≠ gb317) := ⟨h9_⟩
    have n10_ : Aside0 (gb325 ≠ gb324) := ⟨h10_⟩
    have n11_ : Aside0 (gb324 ≠ gb325) := ⟨h11_⟩
    have n12_ : Aside0 (w.heap.size ≤ gb325) := ⟨h12_⟩
    have n13_ : Aside0 (w.heap.size ≤ gb325) := ⟨h13_⟩
    have n14_ : Aside0 (gb316 ≠ gb325) := ⟨h14_⟩
    have n15_ : Aside0 (gb325 ≠ gb316) := ⟨h15_⟩
    have n16_ : Aside0 (gb317 ≠ gb325) := ⟨h16_⟩
    have n17_ : Aside0 (gb325 ≠ gb317) := ⟨h17_⟩
    have n18_ : Aside0 (Below w.heap.size w w44) := ⟨h18_⟩
    clear BK316
    clear BK317
    clear HB
    clear h0_ h1_ h2_ h3_ h4_ h5_ h6_ h7_ h8_ h9_ h10_ h11_ h12_ h13_ h14_ h15_ h16_ h17_ h18_
    have BK316 := n0_
    have BK317 := n1_
    have BK324 := n2_
    have BK325 := n3_
    have GW324 := n4_
    have GE324 := n5_
    have NB316_324 := n6_
    have NB324_316 := n7_
    have NB317_324 := n8_
    have NB324_317 := n9_
    have NB325_324 := n10_
    have NB324_325 := n11_
    have GW325 := n12_
    have GE325 := n13_
    have NB316_325 := n14_
    have NB325_316 := n15_
    have NB317_325 := n16_
    have NB325_317 := n17_
    have HB := n18_
    clear n0_ n1_ n2_ n3_ n4_ n5_ n6_ n7_ n8_ n9_ n10_ n11_ n12_ n13_ n14_ n15_ n16_ n17_ n18_
    have hHeld : w44.cell? ⟨gb316, 0, none⟩ = some (.int .i64 a0_0) ∧ w44.cell? ⟨gb316, 1, none⟩ = some (.int .i64 a0_1) ∧ w44.cell? ⟨gb317, 0, none⟩ = some (.int .i64 a1_0) ∧ w44.cell? ⟨gb317, 1, none⟩ = some (.int .i64 a1_1) := hS_
    refine norm_ (a' := ?_) ?_ ?_
    rotate_left
    ·simp only [putAll, Act.put, List.setIfInBounds_toArray, List.set_cons_zero, List.set_cons_succ]
     rfl
    refine one_ (i := 8) (N := none) #[true, true, true, true, true, true, true, true, true, false] rfl rfl (one_of HT_.out (by kernel_rfl)) (by decide) (fun K hK => ?_)
    have hs45 : w44.cell? ⟨gb324, 0, none⟩ = some (.int .i64 0) := (blk_cell BK324.out 0).trans rfl
    have hfs45 := blk_frozen BK324.out 0
    have hns45_0 := NB316_324.out
    have hns45_1 := NB317_324.out
    have hns45_3 := NB325_324.out
    have hms45_0 := NB324_316.out
    have hms45_1 := NB324_317.out
    have hms45_3 := NB324_325.out
    have hs46 : w44.cell? ⟨gb324, 1, none⟩ = some (.int .i64 0) := (blk_cell BK324.out 1).trans rfl
    have hfs46 := blk_frozen BK324.out 1
    have hns46_0 := NB316_324.out
    have hns46_1 := NB317_324.out
    have hns46_3 := NB325_324.out
    have hms46_0 := NB324_316.out
    have hms46_1 := NB324_317.out
    have hms46_3 := NB324_325.out
    refine skip_ (w1 := ?_) (by rfl) rfl ?_ ?_
    rotate_left
    ·go_simp
     rfl
    refine hK.out _ _ ⟨((cell_far (p := ⟨gb324, _, none⟩) NB316_324.out _).trans (((cell_far (p := ⟨gb324, _, none⟩) NB316_324.out _).trans (hHeld.1)))), ((cell_far (p := ⟨gb324, _, none⟩) NB316_324.out _).trans (((cell_far (p := ⟨gb324, _, none⟩) NB316_324.out _).trans (hHeld.2.1)))), ((cell_far (p := ⟨gb324, _, none⟩) NB317_324.out _).trans (((cell_far (p := ⟨gb324, _, none⟩) NB317_324.out _).trans (hHeld.2.2.1)))), ((cell_far (p := ⟨gb324, _, none⟩) NB317_324.out _).trans (((cell_far (p := ⟨gb324, _, none⟩) NB317_324.out _).trans (hHeld.2.2.2))))⟩ (fun hHeld => ?_)
    clear hK K
    refine one_ (i := 9) (N := none) #[true, true, true, true, true, true, true, true, true, true] rfl rfl (one_of HT_.out (by kernel_rfl)) (by decide) (fun K hK => ?_)
    have hs47 : w44.cell? ⟨gb325, 0, none⟩ = some (.int .i64 0) := (blk_cell BK325.out 0).trans rfl
    have hfs47 := blk_frozen BK325.out 0
    have hns47_0 := NB316_325.out
    have hns47_1 := NB317_325.out
    have hns47_2 := NB324_325.out
    have hms47_0 := NB325_316.out
    have hms47_1 := NB325_317.out
    have hms47_2 := NB325_324.out
    have hs48 : w44.cell? ⟨gb325, 1, none⟩ = some (.int .i64 0) := (blk_cell BK325.out 1).trans rfl
    have hfs48 := blk_frozen BK325.out 1
    have hns48_0 := NB316_325.out
    have hns48_1 := NB317_325.out
    have hns48_2 := NB324_325.out
    have hms48_0 := NB325_316.out
    have hms48_1 := NB325_317.out
    have hms48_2 := NB325_324.out
    refine skip_ (w1 := ?_) (by rfl) rfl ?_ ?_
    rotate_left
    ·go_simp
     rfl
    refine hK.out _ _ ⟨((cell_far (p := ⟨gb325, _, none⟩) NB316_325.out _).trans (((cell_far (p := ⟨gb325, _, none⟩) NB316_325.out _).trans (hHeld.1)))), ((cell_far (p := ⟨gb325, _, none⟩) NB316_325.out _).trans (((cell_far (p := ⟨gb325, _, none⟩) NB316_325.out _).trans (hHeld.2.1)))), ((cell_far (p := ⟨gb325, _, none⟩) NB317_325.out _).trans (((cell_far (p := ⟨gb325, _, none⟩) NB317_325.out _).trans (hHeld.2.2.1)))), ((cell_far (p := ⟨gb325, _, none⟩) NB317_325.out _).trans (((cell_far (p := ⟨gb325, _, none⟩) NB317_325.out _).trans (hHeld.2.2.2))))⟩ (fun hHeld => ?_)
    clear hK K
    refine done_ (done_of HT_.out (by kernel_rfl)) ?_
    go_upto_region 5 with (fail)
    go_cut [64] (fun v64 wc => ∃ (kq : Nat) (x64_36 : Bool), v64 = .bool x64_36 ∧ Aside0 (laws_FnRangeBoth.j1 kq ji33 ji34 x64_36 t320 t321 t322 t323 = some r) ∧ Aside0 (kq ≤ kj2) ∧ Aside0 (wc.heap[gb316]? = some (.cells #[.int .i64 a0_0, .int .i64 a0_1] 24 (0, 0))) ∧ Aside0 (wc.heap[gb317]? = some (.cells #[.int .i64 a1_0, .int .i64 a1_1] 24 (0, 0))) ∧ Aside0 (wc.heap[gb324]? = some (.cells #[.int .i64 t320, .int .i64 t321] 24 (0, 0))) ∧ Aside0 (wc.heap[gb325]? = some (.cells #[.int .i64 t322, .int .i64 t323] 24 (0, 0))) ∧ Aside0 (Below w.heap.size w wc))
    case first =>
     have H := HC37.out
     clear HC37
     replace H := Option.bind_eq_some_iff.mp H
     obtain ⟨t326, A490, H⟩ := H
     replace H : (if t326 = true then ((impl_RangeEnd.f a0_0 a0_1).bind fun t327 => (if t327 = (wrap64 (a0_0 + a0_1)) then ((impl_RangeEmpty.f a0_0 a0_1).bind fun t328 => (laws_FnRangeBoth.j1 kj2 ji33 ji34 t328 t320 t321 t322 t323)) else (laws_FnRangeBoth.j1 kj2 ji33 ji34 true t320 t321 t322 t323))) else (laws_FnRangeBoth.j1 kj2 ji33 ji34 true t320 t321 t322 t323)) = some r := H
     have A49 := Aside0.mk A490
     clear A490
     by_cases c50 : t326 = true
     ·subst c50
      have H1 : ((impl_RangeEnd.f a0_0 a0_1).bind fun t327 => (if t327 = (wrap64 (a0_0 + a0_1)) then ((impl_RangeEmpty.f a0_0 a0_1).bind fun t328 => (laws_FnRangeBoth.j1 kj2 ji33 ji34 t328 t320 t321 t322 t323)) else (laws_FnRangeBoth.j1 kj2 ji33 ji34 true t320 t321 t322 t323))) = some r := by rw [if_pos rfl] at H; exact H
      clear H
      have H := H1
      clear H1
      replace H := Option.bind_eq_some_iff.mp H
      obtain ⟨t327, A510, H⟩ := H
      replace H : (if t327 = (wrap64 (a0_0 + a0_1)) then ((impl_RangeEmpty.f a0_0 a0_1).bind fun t328 => (laws_FnRangeBoth.j1 kj2 ji33 ji34 t328 t320 t321 t322 t323)) else (laws_FnRangeBoth.j1 kj2 ji33 ji34 true t320 t321 t322 t323)) = some r := H
      have A51 := Aside0.mk A510
      clear A510
      by_cases c52 : t327 = (wrap64 (a0_0 + a0_1))
      ·rw [if_pos c52] at H
       have c52b0 : (t327 == (wrap64 (a0_0 + a0_1))) = true := beq_iff_eq.mpr c52
       have c52b1 : (t327 != (wrap64 (a0_0 + a0_1))) = false := bne_eq_false_iff_eq.mpr c52
       clear c52
       (first | rw [c52b0] | (simp only [i64_w, i32_w]; rw [c52b0]) | skip)
       replace H := Option.bind_eq_some_iff.mp H
       obtain ⟨t328, A530, H⟩ := H
       replace H : (laws_FnRangeBoth.j1 kj2 ji33 ji34 t328 t320 t321 t322 t323) = some r := H
       have A53 := Aside0.mk A530
       clear A530
       have H' := Aside0.mk H
       clear H
       try go_wp2
       have n0_ : Aside0 (((((w44.setCell ⟨gb324, 0, none⟩ (.int .i64 t320)).setCell ⟨gb324, 1, none⟩ (.int .i64 t321)).setCell ⟨gb325, 0, none⟩ (.int .i64 t322)).setCell ⟨gb325, 1, none⟩ (.int .i64 t323)).heap[gb316]? = some (.cells #[.int .i64 a0_0, .int .i64 a0_1] 24 (0, 0))) := ⟨by (with_reducible repeat (first | refine blk_drewN ?_ _ | refine blk_drew ?_ | refine blk_alloc ?_ _)); refine blk_far ?_ NB316_325.out _; (with_reducible repeat (first | refine blk_drewN ?_ _ | refine blk_drew ?_ | refine blk_alloc ?_ _)); refine blk_far ?_ NB316_325.out _; (with_reducible repeat (first | refine blk_drewN ?_ _ | refine blk_drew ?_ | refine blk_alloc ?_ _)); refine blk_far ?_ NB316_324.out _; (with_reducible repeat (first | refine blk_drewN ?_ _ | refine blk_drew ?_ | refine blk_alloc ?_ _)); refine blk_far ?_ NB316_324.out _; (with_reducible repeat (first | refine blk_drewN ?_ _ | refine blk_drew ?_ | refine blk_alloc ?_ _)); exact BK316.out⟩
       have n1_ : Aside0 (((((w44.setCell ⟨gb324, 0, none⟩ (.int .i64 t320)).setCell ⟨gb324, 1, none⟩ (.int .i64 t321)).setCell ⟨gb325, 0, none⟩ (.int .i64 t322)).setCell ⟨gb325, 1, none⟩ (.int .i64 t323)).heap[gb317]? = some (.cells #[.int .i64 a1_0, .int .i64 a1_1] 24 (0, 0))) := ⟨by (with_reducible repeat (first | refine blk_drewN ?_ _ | refine blk_drew ?_ | refine blk_alloc ?_ _)); refine blk_far ?_ NB317_325.out _; (with_reducible repeat (first | refine blk_drewN ?_ _ | refine blk_drew ?_ | refine blk_alloc ?_ _)); refine blk_far ?_ NB317_325.out _; (with_reducible repeat (first | refine blk_drewN ?_ _ | refine blk_drew ?_ | refine blk_alloc ?_ _)); refine blk_far ?_ NB317_324.out _; (with_reducible repeat (first | refine blk_drewN ?_ _ | refine blk_drew ?_ | refine blk_alloc ?_ _)); refine blk_far ?_ NB317_324.out _; (with_reducible repeat (first | refine blk_drewN ?_ _ | refine blk_drew ?_ | refine blk_alloc ?_ _)); exact BK317.out⟩
       have n2_ : Aside0 (((((w44.setCell ⟨gb324, 0, none⟩ (.int .i64 t320)).setCell ⟨gb324, 1, none⟩ (.int .i64 t321)).setCell ⟨gb325, 0, none⟩ (.int .i64 t322)).setCell ⟨gb325, 1, none⟩ (.int .i64 t323)).heap[gb324]? = some (.cells #[.int .i64 t320, .int .i64 t321] 24 (0, 0))) := ⟨by (with_reducible repeat (first | refine blk_drewN ?_ _ | refine blk_drew ?_ | refine blk_alloc ?_ _)); refine blk_far ?_ NB324_325.out _; (with_reducible repeat (first | refine blk_drewN ?_ _ | refine blk_drew ?_ | refine blk_alloc ?_ _)); refine blk_far ?_ NB324_325.out _; (with_reducible repeat (first | refine blk_drewN ?_ _ | refine blk_drew ?_ | refine blk_alloc ?_ _)); refine blk_put (cs := #[.int .i64 t320, .int .i64 0]) ?_ 1 _ rfl; (with_reducible repeat (first | refine blk_drewN ?_ _ | refine blk_drew ?_ | refine blk_alloc ?_ _)); refine blk_put (cs := #[.int .i64 0, .int .i64 0]) ?_ 0 _ rfl; (with_reducible repeat (first | refine blk_drewN ?_ _ | refine blk_drew ?_ | refine blk_alloc ?_ _)); exact BK324.out⟩
       have n3_ : Aside0 (((((w44.setCell ⟨gb324, 0, none⟩ (.int .i64 t320)).setCell ⟨gb324, 1, none⟩ (.int .i64 t321)).setCell ⟨gb325, 0, none⟩ (.int .i64 t322)).setCell ⟨gb325, 1, none⟩ (.int .i64 t323)).heap[gb325]? = some (.cells #[.int .i64 t322, .int .i64 t323] 24 (0, 0))) := ⟨by (with_reducible repeat (first | refine blk_drewN ?_ _ | refine blk_drew ?_ | refine blk_alloc ?_ _)); refine blk_put (cs := #[.int .i64 t322, .int .i64 0]) ?_ 1 _ rfl; (with_reducible repeat (first | refine blk_drewN ?_ _ | refine blk_drew ?_ | refine blk_alloc ?_ _)); refine blk_put (cs := #[.int .i64 0, .int .i64 0]) ?_ 0 _ rfl; (with_reducible repeat (first | refine blk_drewN ?_ _ | refine blk_drew ?_ | refine blk_alloc ?_ _)); refine blk_far ?_ NB325_324.out _; (with_reducible repeat (first | refine blk_drewN ?_ _ | refine blk_drew ?_ | refine blk_alloc ?_ _)); refine blk_far ?_ NB325_324.out _; (with_reducible repeat (first | refine blk_drewN ?_ _ | refine blk_drew ?_ | refine blk_alloc ?_ _)); exact BK325.out⟩
       have n4_ : Aside0 (Below w.heap.size w ((((w44.setCell ⟨gb324, 0, none⟩ (.int .i64 t320)).setCell ⟨gb324, 1, none⟩ (.int .i64 t321)).setCell ⟨gb325, 0, none⟩ (.int .i64 t322)).setCell ⟨gb325, 1, none⟩ (.int .i64 t323))) := ⟨by repeat (first | (with_reducible first | exact HB.out | apply below_alloc | apply pw_below_drewN | apply below_drew1 | refine below_set ?_ GE316.out | refine below_set ?_ GE317.out | refine below_set ?_ GE324.out | refine below_set ?_ GE325.out) | exact HB.out)⟩
       (try clear BK316)
       (try clear BK317)
       (try clear BK324)
       (try clear BK325)
       (try clear HB)
       generalize ((((w44.setCell ⟨gb324, 0, none⟩ (.int .i64 t320)).setCell ⟨gb324, 1, none⟩ (.int .i64 t321)).setCell ⟨gb325, 0, none⟩ (.int .i64 t322)).setCell ⟨gb325, 1, none⟩ (.int .i64 t323)) = w54 at n0_ n1_ n2_ n3_ n4_ ⊢
       have BK316 := n0_
       have BK317 := n1_
       have BK324 := n2_
       have BK325 := n3_
       have HB := n4_
       clear n0_ n1_ n2_ n3_ n4_
       have n0_ := Aside0.mk (blk_drew BK316.out)
       have n1_ := Aside0.mk (blk_drew BK317.out)
       have n2_ := Aside0.mk (blk_drew BK324.out)
       have n3_ := Aside0.mk (blk_drew BK325.out)
       have n4_ := Aside0.mk (below_drew1 HB.out)
       clear BK316
       clear BK317
       clear BK324
       clear BK325
       clear HB
       have BK316 := n0_
       have BK317 := n1_
       have BK324 := n2_
       have BK325 := n3_
       have HB := n4_
       clear n0_ n1_ n2_ n3_ n4_
       refine start_ (n := 16) (S := fun w' => w'.cell? ⟨gb316, 0, none⟩ = some (.int .i64 a0_0) ∧ w'.cell? ⟨gb316, 1, none⟩ = some (.int .i64 a0_1)) (ds := []) #[false, false, false, false, false, false, false, false, false, false, false, false, false, false, false, false] (by kernel_rfl) rfl rfl ⟨(blk_cell BK316.out 0).trans rfl, (blk_cell BK316.out 1).trans rfl⟩ (fun hHeld => ?_); refine with_tabW laws_FnRangeBoth.tab5 laws_FnRangeBoth.bits5 (fun HT_ HW_ => ?_)
       generalize w54.drew = w55 at BK316 BK317 BK324 BK325 HB hHeld ⊢
       refine one_ (i := 0) (N := some 49) #[true, false, false, false, false, false, false, false, false, false, false, false, false, false, false, false] rfl rfl (one_of HT_.out (by kernel_rfl)) (by decide) (fun K hK => ?_)
       refine goes_ Try.func13 (by kernel_rfl) rfl #[] (by rfl) rfl rfl (by (try simp only [List.map_toArray, List.map_cons, List.map_nil]); first | done | rfl | (simp only [List.length_drop, List.length_take]; rfl)) ?_
       with_reducible refine (laws_rangeAwake.calls kj2  true _ A49.out).mono ?_
       rintro e w56 ⟨rfl, hb⟩
       refine ⟨_, rfl, ?_⟩
       have n0_ := Aside0.mk (blk_below (g := gb316) (o := .cells #[.int .i64 a0_0, .int .i64 a0_1] 24 (0, 0)) (by (with_reducible repeat (first | refine blk_drewN ?_ _ | refine blk_drew ?_ | refine blk_alloc ?_ _)); exact BK316.out) hb)
       have n1_ := Aside0.mk (blk_below (g := gb317) (o := .cells #[.int .i64 a1_0, .int .i64 a1_1] 24 (0, 0)) (by (with_reducible repeat (first | refine blk_drewN ?_ _ | refine blk_drew ?_ | refine blk_alloc ?_ _)); exact BK317.out) hb)
       have n2_ := Aside0.mk (blk_below (g := gb324) (o := .cells #[.int .i64 t320, .int .i64 t321] 24 (0, 0)) (by (with_reducible repeat (first | refine blk_drewN ?_ _ | refine blk_drew ?_ | refine blk_alloc ?_ _)); exact BK324.out) hb)
       have n3_ := Aside0.mk (blk_below (g := gb325) (o := .cells #[.int .i64 t322, .int .i64 t323] 24 (0, 0)) (by (with_reducible repeat (first | refine blk_drewN ?_ _ | refine blk_drew ?_ | refine blk_alloc ?_ _)); exact BK325.out) hb)
       have n4_ := Aside0.mk (below_step (by repeat (first | (with_reducible first | exact HB.out | apply below_alloc | apply pw_below_drewN | apply below_drew1 | refine below_set ?_ GE316.out | refine below_set ?_ GE317.out | refine below_set ?_ GE324.out | refine below_set ?_ GE325.out) | exact HB.out)) hb)
       clear BK316
       clear BK317
       clear BK324
       clear BK325
       clear HB
       have BK316 := n0_
       have BK317 := n1_
       have BK324 := n2_
       have BK325 := n3_
       have HB := n4_
       clear n0_ n1_ n2_ n3_ n4_
       (try clear hb)
       (try clear hb2)
       (try clear hk)
       (try clear hi)
       refine hK.out _ _ ⟨(blk_cell BK316.out 0).trans rfl, (blk_cell BK316.out 1).trans rfl⟩ (fun hHeld => ?_)
       clear hK K
       refine norm_ (a' := ?_) ?_ ?_
       rotate_left
       ·show Act.put _ (some 49) _ = _
        simp only [Act.put, List.setIfInBounds_toArray, List.set_cons_zero, List.set_cons_succ, i64_w, i32_w]
        rfl
       refine pure_ (i := 1) (N := some 50) (v := ?_) (a' := ?_) #[true, true, false, false, false, false, false, false, false, false, false, false, false, false, false, false] rfl rfl (any_of HT_.out (by kernel_rfl)) (fun _ _ _ h => h) (Or.inl ⟨by rfl, ?_⟩) ?_ ?_
       rotate_left
       ·intro w'
        go_simp
        with_reducible rfl
       rotate_left
       ·simp only [Act.put, List.setIfInBounds_toArray, List.set_cons_zero, List.set_cons_succ, i64_w, i32_w]
        rfl
       refine pure_ (i := 2) (N := some 51) (v := ?_) (a' := ?_) #[true, true, true, false, false, false, false, false, false, false, false, false, false, false, false, false] rfl rfl (any_of HT_.out (by kernel_rfl)) (fun _ _ _ h => h) (Or.inl ⟨by rfl, ?_⟩) ?_ ?_
       rotate_left
       ·intro w'
        go_simp
        with_reducible rfl
       rotate_left
       ·simp only [Act.put, List.setIfInBounds_toArray, List.set_cons_zero, List.set_cons_succ, i64_w, i32_w]
        rfl
       refine pure_ (i := 5) (N := some 54) (v := ?_) (a' := ?_) #[true, true, true, false, false, true, false, false, false, false, false, false, false, false, false, false] rfl rfl (any_of HT_.out (by kernel_rfl)) (fun _ _ _ h => h) (Or.inl ⟨by rfl, ?_⟩) ?_ ?_
       rotate_left
       ·intro w'
        go_simp
        with_reducible rfl
       rotate_left
       ·simp only [Act.put, List.setIfInBounds_toArray, List.set_cons_zero, List.set_cons_succ, i64_w, i32_w]
        rfl
       refine pure_ (i := 7) (N := some 56) (v := ?_) (a' := ?_) #[true, true, true, false, false, true, false, true, false, false, false, false, false, false, false, false] rfl rfl (any_of HT_.out (by kernel_rfl)) (fun _ _ _ h => h) (Or.inl ⟨by rfl, ?_⟩) ?_ ?_
       rotate_left
       ·intro w'
        go_simp
        with_reducible rfl
       rotate_left
       ·simp only [Act.put, List.setIfInBounds_toArray, List.set_cons_zero, List.set_cons_succ, i64_w, i32_w]
        rfl
       refine take_ (i := 3) (N := some 52) (v := ?_) (a' := ?_) #[true, true, true, true, false, true, false, true, false, false, false, false, false, false, false, false] rfl rfl (take_ofW HT_.out HW_.out (by kernel_rfl)) (fun _ _ _ h => h) (Or.inl ⟨by rfl, ?_⟩) hHeld ?_ ?_
       rotate_left
       ·rintro w' ⟨s0, s1⟩
        go_simp
        with_reducible rfl
       rotate_left
       ·simp only [Act.put, List.setIfInBounds_toArray, List.set_cons_zero, List.set_cons_succ, i64_w, i32_w]
        rfl
       refine take_ (i := 6) (N := some 55) (v := ?_) (a' := ?_) #[true, true, true, true, false, true, true, true, false, false, false, false, false, false, false, false] rfl rfl (take_ofW HT_.out HW_.out (by kernel_rfl)) (fun _ _ _ h => h) (Or.inl ⟨by rfl, ?_⟩) hHeld ?_ ?_
       rotate_left
       ·rintro w' ⟨s0, s1⟩
        go_simp
        with_reducible rfl
       rotate_left
       ·simp only [Act.put, List.setIfInBounds_toArray, List.set_cons_zero, List.set_cons_succ, i64_w, i32_w]
        rfl
       refine take_ (i := 8) (N := some 57) (v := ?_) (a' := ?_) #[true, true, true, true, false, true, true, true, true, false, false, false, false, false, false, false] rfl rfl (take_ofW HT_.out HW_.out (by kernel_rfl)) (fun _ _ _ h => h) (Or.inl ⟨by rfl, ?_⟩) hHeld ?_ ?_
       rotate_left
       ·rintro w' ⟨s0, s1⟩
        go_simp
        with_reducible rfl
       rotate_left
       ·simp only [Act.put, List.setIfInBounds_toArray, List.set_cons_zero, List.set_cons_succ, i64_w, i32_w]
        rfl
       refine pure_ (i := 9) (N := some 58) (v := ?_) (a' := ?_) #[true, true, true, true, false, true, true, true, true, true, false, false, false, false, false, false] rfl rfl (any_of HT_.out (by kernel_rfl)) (fun _ _ _ h => h) (Or.inl ⟨by rfl, ?_⟩) ?_ ?_
       rotate_left
       ·intro w'
        go_simp
        with_reducible rfl
       rotate_left
       ·simp only [Act.put, List.setIfInBounds_toArray, List.set_cons_zero, List.set_cons_succ, i64_w, i32_w]
        rfl
       refine one_ (i := 4) (N := some 53) #[true, true, true, true, true, true, true, true, true, true, false, false, false, false, false, false] rfl rfl (one_of HT_.out (by kernel_rfl)) (by decide) (fun K hK => ?_)
       refine goes_ Try.func21 (by kernel_rfl) rfl #[.agg #[.int .i64 a0_0, .int .i64 a0_1]] (by rfl) rfl rfl (by (try simp only [List.map_toArray, List.map_cons, List.map_nil]); first | done | rfl | (simp only [List.length_drop, List.length_take]; rfl)) ?_
       with_reducible refine (impl_RangeEnd.calls a0_0 a0_1 t327 _ A51.out).mono ?_
       rintro e w57 ⟨rfl, hb⟩
       refine ⟨_, rfl, ?_⟩
       have n0_ := Aside0.mk (blk_below (g := gb316) (o := .cells #[.int .i64 a0_0, .int .i64 a0_1] 24 (0, 0)) (by (with_reducible repeat (first | refine blk_drewN ?_ _ | refine blk_drew ?_ | refine blk_alloc ?_ _)); exact BK316.out) hb)
       have n1_ := Aside0.mk (blk_below (g := gb317) (o := .cells #[.int .i64 a1_0, .int .i64 a1_1] 24 (0, 0)) (by (with_reducible repeat (first | refine blk_drewN ?_ _ | refine blk_drew ?_ | refine blk_alloc ?_ _)); exact BK317.out) hb)
       have n2_ := Aside0.mk (blk_below (g := gb324) (o := .cells #[.int .i64 t320, .int .i64 t321] 24 (0, 0)) (by (with_reducible repeat (first | refine blk_drewN ?_ _ | refine blk_drew ?_ | refine blk_alloc ?_ _)); exact BK324.out) hb)
       have n3_ := Aside0.mk (blk_below (g := gb325) (o := .cells #[.int .i64 t322, .int .i64 t323] 24 (0, 0)) (by (with_reducible repeat (first | refine blk_drewN ?_ _ | refine blk_drew ?_ | refine blk_alloc ?_ _)); exact BK325.out) hb)
       have n4_ := Aside0.mk (below_step (by repeat (first | (with_reducible first | exact HB.out | apply below_alloc | apply pw_below_drewN | apply below_drew1 | refine below_set ?_ GE316.out | refine below_set ?_ GE317.out | refine below_set ?_ GE324.out | refine below_set ?_ GE325.out) | exact HB.out)) hb)
       clear BK316
       clear BK317
       clear BK324
       clear BK325
       clear HB
       have BK316 := n0_
       have BK317 := n1_
       have BK324 := n2_
       have BK325 := n3_
       have HB := n4_
       clear n0_ n1_ n2_ n3_ n4_
       (try clear hb)
       (try clear hb2)
       (try clear hk)
       (try clear hi)
       refine hK.out _ _ ⟨(blk_cell BK316.out 0).trans rfl, (blk_cell BK316.out 1).trans rfl⟩ (fun hHeld => ?_)
       clear hK K
       refine norm_ (a' := ?_) ?_ ?_
       rotate_left
       ·show Act.put _ (some 53) _ = _
        simp only [Act.put, List.setIfInBounds_toArray, List.set_cons_zero, List.set_cons_succ, i64_w, i32_w]
        rfl
       refine pure_ (i := 10) (N := some 59) (v := ?_) (a' := ?_) #[true, true, true, true, true, true, true, true, true, true, true, false, false, false, false, false] rfl rfl (any_of HT_.out (by kernel_rfl)) (fun _ _ _ h => h) (Or.inl ⟨by rfl, ?_⟩) ?_ ?_
       rotate_left
       ·intro w'
        go_simp
        with_reducible rfl
       rotate_left
       ·simp only [Act.put, List.setIfInBounds_toArray, List.set_cons_zero, List.set_cons_succ, i64_w, i32_w]
        rfl
       refine pure_ (i := 11) (N := some 60) (v := ?_) (a' := ?_) #[true, true, true, true, true, true, true, true, true, true, true, true, false, false, false, false] rfl rfl (any_of HT_.out (by kernel_rfl)) (fun _ _ _ h => h) (Or.inl ⟨by rfl, ?_⟩) ?_ ?_
       rotate_left
       ·intro w'
        go_simp
        with_reducible rfl
       rotate_left
       ·simp only [Act.put, List.setIfInBounds_toArray, List.set_cons_zero, List.set_cons_succ, i64_w, i32_w]
        rfl
       refine pure_ (i := 12) (N := some 61) (v := ?_) (a' := ?_) #[true, true, true, true, true, true, true, true, true, true, true, true, true, false, false, false] rfl rfl (any_of HT_.out (by kernel_rfl)) (fun _ _ _ h => h) (Or.inl ⟨by rfl, ?_⟩) ?_ ?_
       rotate_left
       ·intro w'
        go_simp
        with_reducible rfl
       rotate_left
       ·simp only [Act.put, List.setIfInBounds_toArray, List.set_cons_zero, List.set_cons_succ, i64_w, i32_w]
        rfl
       refine take_ (i := 13) (N := some 62) (v := ?_) (a' := ?_) #[true, true, true, true, true, true, true, true, true, true, true, true, true, true, false, false] rfl rfl (take_ofW HT_.out HW_.out (by kernel_rfl)) (fun _ _ _ h => h) (Or.inl ⟨by rfl, ?_⟩) hHeld ?_ ?_
       rotate_left
       ·rintro w' ⟨s0, s1⟩
        go_simp
        with_reducible rfl
       rotate_left
       ·simp only [Act.put, List.setIfInBounds_toArray, List.set_cons_zero, List.set_cons_succ, i64_w, i32_w]
        rfl
       refine one_ (i := 14) (N := some 63) #[true, true, true, true, true, true, true, true, true, true, true, true, true, true, true, false] rfl rfl (one_of HT_.out (by kernel_rfl)) (by decide) (fun K hK => ?_)
       refine goes_ Try.func22 (by kernel_rfl) rfl #[.agg #[.int .i64 a0_0, .int .i64 a0_1]] (by rfl) rfl rfl (by (try simp only [List.map_toArray, List.map_cons, List.map_nil]); first | done | rfl | (simp only [List.length_drop, List.length_take]; rfl)) ?_
       with_reducible refine (impl_RangeEmpty.calls a0_0 a0_1 t328 _ A53.out).mono ?_
       rintro e w58 ⟨rfl, hb⟩
       refine ⟨_, rfl, ?_⟩
       have n0_ := Aside0.mk (blk_below (g := gb316) (o := .cells #[.int .i64 a0_0, .int .i64 a0_1] 24 (0, 0)) (by (with_reducible repeat (first | refine blk_drewN ?_ _ | refine blk_drew ?_ | refine blk_alloc ?_ _)); exact BK316.out) hb)
       have n1_ := Aside0.mk (blk_below (g := gb317) (o := .cells #[.int .i64 a1_0, .int .i64 a1_1] 24 (0, 0)) (by (with_reducible repeat (first | refine blk_drewN ?_ _ | refine blk_drew ?_ | refine blk_alloc ?_ _)); exact BK317.out) hb)
       have n2_ := Aside0.mk (blk_below (g := gb324) (o := .cells #[.int .i64 t320, .int .i64 t321] 24 (0, 0)) (by (with_reducible repeat (first | refine blk_drewN ?_ _ | refine blk_drew ?_ | refine blk_alloc ?_ _)); exact BK324.out) hb)
       have n3_ := Aside0.mk (blk_below (g := gb325) (o := .cells #[.int .i64 t322, .int .i64 t323] 24 (0, 0)) (by (with_reducible repeat (first | refine blk_drewN ?_ _ | refine blk_drew ?_ | refine blk_alloc ?_ _)); exact BK325.out) hb)
       have n4_ := Aside0.mk (below_step (by repeat (first | (with_reducible first | exact HB.out | apply below_alloc | apply pw_below_drewN | apply below_drew1 | refine below_set ?_ GE316.out | refine below_set ?_ GE317.out | refine below_set ?_ GE324.out | refine below_set ?_ GE325.out) | exact HB.out)) hb)
       clear BK316
       clear BK317
       clear BK324
       clear BK325
       clear HB
       have BK316 := n0_
       have BK317 := n1_
       have BK324 := n2_
       have BK325 := n3_
       have HB := n4_
       clear n0_ n1_ n2_ n3_ n4_
       (try clear hb)
       (try clear hb2)
       (try clear hk)
       (try clear hi)
       refine hK.out _ _ ⟨(blk_cell BK316.out 0).trans rfl, (blk_cell BK316.out 1).trans rfl⟩ (fun hHeld => ?_)
       clear hK K
       refine norm_ (a' := ?_) ?_ ?_
       rotate_left
       ·show Act.put _ (some 63) _ = _
        simp only [Act.put, List.setIfInBounds_toArray, List.set_cons_zero, List.set_cons_succ, i64_w, i32_w]
        rfl
       refine pure_ (i := 15) (N := some 64) (v := ?_) (a' := ?_) #[true, true, true, true, true, true, true, true, true, true, true, true, true, true, true, true] rfl rfl (any_of HT_.out (by kernel_rfl)) (fun _ _ _ h => h) (Or.inl ⟨by rfl, ?_⟩) ?_ ?_
       rotate_left
       ·intro w'
        go_simp
        with_reducible rfl
       rotate_left
       ·simp only [Act.put, List.setIfInBounds_toArray, List.set_cons_zero, List.set_cons_succ, i64_w, i32_w]
        rfl
       refine done_ (done_of HT_.out (by kernel_rfl)) ?_
       try go_wp2
       go_meet
       case rel => exact ⟨_, (t328), (by first | rfl | (simp; done) | (simp [*]; done)), H', ⟨by have := HJ2.out; first | omega | exact Nat.le_refl _⟩, ⟨by (with_reducible repeat (first | refine blk_drewN ?_ _ | refine blk_drew ?_ | refine blk_alloc ?_ _)); exact BK316.out⟩, ⟨by (with_reducible repeat (first | refine blk_drewN ?_ _ | refine blk_drew ?_ | refine blk_alloc ?_ _)); exact BK317.out⟩, ⟨by (with_reducible repeat (first | refine blk_drewN ?_ _ | refine blk_drew ?_ | refine blk_alloc ?_ _)); exact BK324.out⟩, ⟨by (with_reducible repeat (first | refine blk_drewN ?_ _ | refine blk_drew ?_ | refine blk_alloc ?_ _)); exact BK325.out⟩, ⟨by repeat (first | (with_reducible first | exact HB.out | apply below_alloc | apply pw_below_drewN | apply below_drew1 | refine below_set ?_ GE316.out | refine below_set ?_ GE317.out | refine below_set ?_ GE324.out | refine below_set ?_ GE325.out) | exact HB.out)⟩⟩
      ·rw [if_neg c52] at H
       have c52b0 : (t327 == (wrap64 (a0_0 + a0_1))) = false := beq_eq_false_iff_ne.mpr c52
       have c52b1 : (t327 != (wrap64 (a0_0 + a0_1))) = true := bne_iff_ne.mpr c52
       (first | rw [c52b0] | (simp only [i64_w, i32_w]; rw [c52b0]) | skip)
       have H' := Aside0.mk H
       clear H
       try go_wp2
       have n0_ : Aside0 (((((w44.setCell ⟨gb324, 0, none⟩ (.int .i64 t320)).setCell ⟨gb324, 1, none⟩ (.int .i64 t321)).setCell ⟨gb325, 0, none⟩ (.int .i64 t322)).setCell ⟨gb325, 1, none⟩ (.int .i64 t323)).heap[gb316]? = some (.cells #[.int .i64 a0_0, .int .i64 a0_1] 24 (0, 0))) := ⟨by (with_reducible repeat (first | refine blk_drewN ?_ _ | refine blk_drew ?_ | refine blk_alloc ?_ _)); refine blk_far ?_ NB316_325.out _; (with_reducible repeat (first | refine blk_drewN ?_ _ | refine blk_drew ?_ | refine blk_alloc ?_ _)); refine blk_far ?_ NB316_325.out _; (with_reducible repeat (first | refine blk_drewN ?_ _ | refine blk_drew ?_ | refine blk_alloc ?_ _)); refine blk_far ?_ NB316_324.out _; (with_reducible repeat (first | refine blk_drewN ?_ _ | refine blk_drew ?_ | refine blk_alloc ?_ _)); refine blk_far ?_ NB316_324.out _; (with_reducible repeat (first | refine blk_drewN ?_ _ | refine blk_drew ?_ | refine blk_alloc ?_ _)); exact BK316.out⟩
       have n1_ : Aside0 (((((w44.setCell ⟨gb324, 0, none⟩ (.int .i64 t320)).setCell ⟨gb324, 1, none⟩ (.int .i64 t321)).setCell ⟨gb325, 0, none⟩ (.int .i64 t322)).setCell ⟨gb325, 1, none⟩ (.int .i64 t323)).heap[gb317]? = some (.cells #[.int .i64 a1_0, .int .i64 a1_1] 24 (0, 0))) := ⟨by (with_reducible repeat (first | refine blk_drewN ?_ _ | refine blk_drew ?_ | refine blk_alloc ?_ _)); refine blk_far ?_ NB317_325.out _; (with_reducible repeat (first | refine blk_drewN ?_ _ | refine blk_drew ?_ | refine blk_alloc ?_ _)); refine blk_far ?_ NB317_325.out _; (with_reducible repeat (first | refine blk_drewN ?_ _ | refine blk_drew ?_ | refine blk_alloc ?_ _)); refine blk_far ?_ NB317_324.out _; (with_reducible repeat (first | refine blk_drewN ?_ _ | refine blk_drew ?_ | refine blk_alloc ?_ _)); refine blk_far ?_ NB317_324.out _; (with_reducible repeat (first | refine blk_drewN ?_ _ | refine blk_drew ?_ | refine blk_alloc ?_ _)); exact BK317.out⟩
       have n2_ : Aside0 (((((w44.setCell ⟨gb324, 0, none⟩ (.int .i64 t320)).setCell ⟨gb324, 1, none⟩ (.int .i64 t321)).setCell ⟨gb325, 0, none⟩ (.int .i64 t322)).setCell ⟨gb325, 1, none⟩ (.int .i64 t323)).heap[gb324]? = some (.cells #[.int .i64 t320, .int .i64 t321] 24 (0, 0))) := ⟨by (with_reducible repeat (first | refine blk_drewN ?_ _ | refine blk_drew ?_ | refine blk_alloc ?_ _)); refine blk_far ?_ NB324_325.out _; (with_reducible repeat (first | refine blk_drewN ?_ _ | refine blk_drew ?_ | refine blk_alloc ?_ _)); refine blk_far ?_ NB324_325.out _; (with_reducible repeat (first | refine blk_drewN ?_ _ | refine blk_drew ?_ | refine blk_alloc ?_ _)); refine blk_put (cs := #[.int .i64 t320, .int .i64 0]) ?_ 1 _ rfl; (with_reducible repeat (first | refine blk_drewN ?_ _ | refine blk_drew ?_ | refine blk_alloc ?_ _)); refine blk_put (cs := #[.int .i64 0, .int .i64 0]) ?_ 0 _ rfl; (with_reducible repeat (first | refine blk_drewN ?_ _ | refine blk_drew ?_ | refine blk_alloc ?_ _)); exact BK324.out⟩
       have n3_ : Aside0 (((((w44.setCell ⟨gb324, 0, none⟩ (.int .i64 t320)).setCell ⟨gb324, 1, none⟩ (.int .i64 t321)).setCell ⟨gb325, 0, none⟩ (.int .i64 t322)).setCell ⟨gb325, 1, none⟩ (.int .i64 t323)).heap[gb325]? = some (.cells #[.int .i64 t322, .int .i64 t323] 24 (0, 0))) := ⟨by (with_reducible repeat (first | refine blk_drewN ?_ _ | refine blk_drew ?_ | refine blk_alloc ?_ _)); refine blk_put (cs := #[.int .i64 t322, .int .i64 0]) ?_ 1 _ rfl; (with_reducible repeat (first | refine blk_drewN ?_ _ | refine blk_drew ?_ | refine blk_alloc ?_ _)); refine blk_put (cs := #[.int .i64 0, .int .i64 0]) ?_ 0 _ rfl; (with_reducible repeat (first | refine blk_drewN ?_ _ | refine blk_drew ?_ | refine blk_alloc ?_ _)); refine blk_far ?_ NB325_324.out _; (with_reducible repeat (first | refine blk_drewN ?_ _ | refine blk_drew ?_ | refine blk_alloc ?_ _)); refine blk_far ?_ NB325_324.out _; (with_reducible repeat (first | refine blk_drewN ?_ _ | refine blk_drew ?_ | refine blk_alloc ?_ _)); exact BK325.out⟩
       have n4_ : Aside0 (Below w.heap.size w ((((w44.setCell ⟨gb324, 0, none⟩ (.int .i64 t320)).setCell ⟨gb324, 1, none⟩ (.int .i64 t321)).setCell ⟨gb325, 0, none⟩ (.int .i64 t322)).setCell ⟨gb325, 1, none⟩ (.int .i64 t323))) := ⟨by repeat (first | (with_reducible first | exact HB.out | apply below_alloc | apply pw_below_drewN | apply below_drew1 | refine below_set ?_ GE316.out | refine below_set ?_ GE317.out | refine below_set ?_ GE324.out | refine below_set ?_ GE325.out) | exact HB.out)⟩
       (try clear BK316)
       (try clear BK317)
       (try clear BK324)
       (try clear BK325)
       (try clear HB)
       generalize ((((w44.setCell ⟨gb324, 0, none⟩ (.int .i64 t320)).setCell ⟨gb324, 1, none⟩ (.int .i64 t321)).setCell ⟨gb325, 0, none⟩ (.int .i64 t322)).setCell ⟨gb325, 1, none⟩ (.int .i64 t323)) = w59 at n0_ n1_ n2_ n3_ n4_ ⊢
       have BK316 := n0_
       have BK317 := n1_
       have BK324 := n2_
       have BK325 := n3_
       have HB := n4_
       clear n0_ n1_ n2_ n3_ n4_
       have n0_ := Aside0.mk (blk_drew BK316.out)
       have n1_ := Aside0.mk (blk_drew BK317.out)
       have n2_ := Aside0.mk (blk_drew BK324.out)
       have n3_ := Aside0.mk (blk_drew BK325.out)
       have n4_ := Aside0.mk (below_drew1 HB.out)
       clear BK316
       clear BK317
       clear BK324
       clear BK325
       clear HB
       have BK316 := n0_
       have BK317 := n1_
       have BK324 := n2_
       have BK325 := n3_
       have HB := n4_
       clear n0_ n1_ n2_ n3_ n4_
       refine start_ (n := 16) (S := fun w' => w'.cell? ⟨gb316, 0, none⟩ = some (.int .i64 a0_0) ∧ w'.cell? ⟨gb316, 1, none⟩ = some (.int .i64 a0_1)) (ds := []) #[false, false, false, false, false, false, false, false, false, false, false, false, false, false, false, false] (by kernel_rfl) rfl rfl ⟨(blk_cell BK316.out 0).trans rfl, (blk_cell BK316.out 1).trans rfl⟩ (fun hHeld => ?_); refine with_tabW laws_FnRangeBoth.tab5 laws_FnRangeBoth.bits5 (fun HT_ HW_ => ?_)
       generalize w59.drew = w60 at BK316 BK317 BK324 BK325 HB hHeld ⊢
       refine one_ (i := 0) (N := some 49) #[true, false, false, false, false, false, false, false, false, false, false, false, false, false, false, false] rfl rfl (one_of HT_.out (by kernel_rfl)) (by decide) (fun K hK => ?_)
       refine goes_ Try.func13 (by kernel_rfl) rfl #[] (by rfl) rfl rfl (by (try simp only [List.map_toArray, List.map_cons, List.map_nil]); first | done | rfl | (simp only [List.length_drop, List.length_take]; rfl)) ?_
       with_reducible refine (laws_rangeAwake.calls kj2  true _ A49.out).mono ?_
       rintro e w61 ⟨rfl, hb⟩
       refine ⟨_, rfl, ?_⟩
       have n0_ := Aside0.mk (blk_below (g := gb316) (o := .cells #[.int .i64 a0_0, .int .i64 a0_1] 24 (0, 0)) (by (with_reducible repeat (first | refine blk_drewN ?_ _ | refine blk_drew ?_ | refine blk_alloc ?_ _)); exact BK316.out) hb)
       have n1_ := Aside0.mk (blk_below (g := gb317) (o := .cells #[.int .i64 a1_0, .int .i64 a1_1] 24 (0, 0)) (by (with_reducible repeat (first | refine blk_drewN ?_ _ | refine blk_drew ?_ | refine blk_alloc ?_ _)); exact BK317.out) hb)
       have n2_ := Aside0.mk (blk_below (g := gb324) (o := .cells #[.int .i64 t320, .int .i64 t321] 24 (0, 0)) (by (with_reducible repeat (first | refine blk_drewN ?_ _ | refine blk_drew ?_ | refine blk_alloc ?_ _)); exact BK324.out) hb)
       have n3_ := Aside0.mk (blk_below (g := gb325) (o := .cells #[.int .i64 t322, .int .i64 t323] 24 (0, 0)) (by (with_reducible repeat (first | refine blk_drewN ?_ _ | refine blk_drew ?_ | refine blk_alloc ?_ _)); exact BK325.out) hb)
       have n4_ := Aside0.mk (below_step (by repeat (first | (with_reducible first | exact HB.out | apply below_alloc | apply pw_below_drewN | apply below_drew1 | refine below_set ?_ GE316.out | refine below_set ?_ GE317.out | refine below_set ?_ GE324.out | refine below_set ?_ GE325.out) | exact HB.out)) hb)
       clear BK316
       clear BK317
       clear BK324
       clear BK325
       clear HB
       have BK316 := n0_
       have BK317 := n1_
       have BK324 := n2_
       have BK325 := n3_
       have HB := n4_
       clear n0_ n1_ n2_ n3_ n4_
       (try clear hb)
       (try clear hb2)
       (try clear hk)
       (try clear hi)
       refine hK.out _ _ ⟨(blk_cell BK316.out 0).trans rfl, (blk_cell BK316.out 1).trans rfl⟩ (fun hHeld => ?_)
       clear hK K
       refine norm_ (a' := ?_) ?_ ?_
       rotate_left
       ·show Act.put _ (some 49) _ = _
        simp only [Act.put, List.setIfInBounds_toArray, List.set_cons_zero, List.set_cons_succ, i64_w, i32_w]
        rfl
       refine pure_ (i := 1) (N := some 50) (v := ?_) (a' := ?_) #[true, true, false, false, false, false, false, false, false, false, false, false, false, false, false, false] rfl rfl (any_of HT_.out (by kernel_rfl)) (fun _ _ _ h => h) (Or.inl ⟨by rfl, ?_⟩) ?_ ?_
       rotate_left
       ·intro w'
        go_simp
        with_reducible rfl
       rotate_left
       ·simp only [Act.put, List.setIfInBounds_toArray, List.set_cons_zero, List.set_cons_succ, i64_w, i32_w]
        rfl
       refine pure_ (i := 2) (N := some 51) (v := ?_) (a' := ?_) #[true, true, true, false, false, false, false, false, false, false, false, false, false, false, false, false] rfl rfl (any_of HT_.out (by kernel_rfl)) (fun _ _ _ h => h) (Or.inl ⟨by rfl, ?_⟩) ?_ ?_
       rotate_left
       ·intro w'
        go_simp
        with_reducible rfl
       rotate_left
       ·simp only [Act.put, List.setIfInBounds_toArray, List.set_cons_zero, List.set_cons_succ, i64_w, i32_w]
        rfl
       refine pure_ (i := 5) (N := some 54) (v := ?_) (a' := ?_) #[true, true, true, false, false, true, false, false, false, false, false, false, false, false, false, false] rfl rfl (any_of HT_.out (by kernel_rfl)) (fun _ _ _ h => h) (Or.inl ⟨by rfl, ?_⟩) ?_ ?_
       rotate_left
       ·intro w'
        go_simp
        with_reducible rfl
       rotate_left
       ·simp only [Act.put, List.setIfInBounds_toArray, List.set_cons_zero, List.set_cons_succ, i64_w, i32_w]
        rfl
       refine pure_ (i := 7) (N := some 56) (v := ?_) (a' := ?_) #[true, true, true, false, false, true, false, true, false, false, false, false, false, false, false, false] rfl rfl (any_of HT_.out (by kernel_rfl)) (fun _ _ _ h => h) (Or.inl ⟨by rfl, ?_⟩) ?_ ?_
       rotate_left
       ·intro w'
        go_simp
        with_reducible rfl
       rotate_left
       ·simp only [Act.put, List.setIfInBounds_toArray, List.set_cons_zero, List.set_cons_succ, i64_w, i32_w]
        rfl
       refine take_ (i := 3) (N := some 52) (v := ?_) (a' := ?_) #[true, true, true, true, false, true, false, true, false, false, false, false, false, false, false, false] rfl rfl (take_ofW HT_.out HW_.out (by kernel_rfl)) (fun _ _ _ h => h) (Or.inl ⟨by rfl, ?_⟩) hHeld ?_ ?_
       rotate_left
       ·rintro w' ⟨s0, s1⟩
        go_simp
        with_reducible rfl
       rotate_left
       ·simp only [Act.put, List.setIfInBounds_toArray, List.set_cons_zero, List.set_cons_succ, i64_w, i32_w]
        rfl
       refine take_ (i := 6) (N := some 55) (v := ?_) (a' := ?_) #[true, true, true, true, false, true, true, true, false, false, false, false, false, false, false, false] rfl rfl (take_ofW HT_.out HW_.out (by kernel_rfl)) (fun _ _ _ h => h) (Or.inl ⟨by rfl, ?_⟩) hHeld ?_ ?_
       rotate_left
       ·rintro w' ⟨s0, s1⟩
        go_simp
        with_reducible rfl
       rotate_left
       ·simp only [Act.put, List.setIfInBounds_toArray, List.set_cons_zero, List.set_cons_succ, i64_w, i32_w]
        rfl
       refine take_ (i := 8) (N := some 57) (v := ?_) (a' := ?_) #[true, true, true, true, false, true, true, true, true, false, false, false, false, false, false, false] rfl rfl (take_ofW HT_.out HW_.out (by kernel_rfl)) (fun _ _ _ h => h) (Or.inl ⟨by rfl, ?_⟩) hHeld ?_ ?_
       rotate_left
       ·rintro w' ⟨s0, s1⟩
        go_simp
        with_reducible rfl
       rotate_left
       ·simp only [Act.put, List.setIfInBounds_toArray, List.set_cons_zero, List.set_cons_succ, i64_w, i32_w]
        rfl
       refine pure_ (i := 9) (N := some 58) (v := ?_) (a' := ?_) #[true, true, true, true, false, true, true, true, true, true, false, false, false, false, false, false] rfl rfl (any_of HT_.out (by kernel_rfl)) (fun _ _ _ h => h) (Or.inl ⟨by rfl, ?_⟩) ?_ ?_
       rotate_left
       ·intro w'
        go_simp
        with_reducible rfl
       rotate_left
       ·simp only [Act.put, List.setIfInBounds_toArray, List.set_cons_zero, List.set_cons_succ, i64_w, i32_w]
        rfl
       refine one_ (i := 4) (N := some 53) #[true, true, true, true, true, true, true, true, true, true, false, false, false, false, false, false] rfl rfl (one_of HT_.out (by kernel_rfl)) (by decide) (fun K hK => ?_)
       refine goes_ Try.func21 (by kernel_rfl) rfl #[.agg #[.int .i64 a0_0, .int .i64 a0_1]] (by rfl) rfl rfl (by (try simp only [List.map_toArray, List.map_cons, List.map_nil]); first | done | rfl | (simp only [List.length_drop, List.length_take]; rfl)) ?_
       with_reducible refine (impl_RangeEnd.calls a0_0 a0_1 t327 _ A51.out).mono ?_
       rintro e w62 ⟨rfl, hb⟩
       refine ⟨_, rfl, ?_⟩
       have n0_ := Aside0.mk (blk_below (g := gb316) (o := .cells #[.int .i64 a0_0, .int .i64 a0_1] 24 (0, 0)) (by (with_reducible repeat (first | refine blk_drewN ?_ _ | refine blk_drew ?_ | refine blk_alloc ?_ _)); exact BK316.out) hb)
       have n1_ := Aside0.mk (blk_below (g := gb317) (o := .cells #[.int .i64 a1_0, .int .i64 a1_1] 24 (0, 0)) (by (with_reducible repeat (first | refine blk_drewN ?_ _ | refine blk_drew ?_ | refine blk_alloc ?_ _)); exact BK317.out) hb)
       have n2_ := Aside0.mk (blk_below (g := gb324) (o := .cells #[.int .i64 t320, .int .i64 t321] 24 (0, 0)) (by (with_reducible repeat (first | refine blk_drewN ?_ _ | refine blk_drew ?_ | refine blk_alloc ?_ _)); exact BK324.out) hb)
       have n3_ := Aside0.mk (blk_below (g := gb325) (o := .cells #[.int .i64 t322, .int .i64 t323] 24 (0, 0)) (by (with_reducible repeat (first | refine blk_drewN ?_ _ | refine blk_drew ?_ | refine blk_alloc ?_ _)); exact BK325.out) hb)
       have n4_ := Aside0.mk (below_step (by repeat (first | (with_reducible first | exact HB.out | apply below_alloc | apply pw_below_drewN | apply below_drew1 | refine below_set ?_ GE316.out | refine below_set ?_ GE317.out | refine below_set ?_ GE324.out | refine below_set ?_ GE325.out) | exact HB.out)) hb)
       clear BK316
       clear BK317
       clear BK324
       clear BK325
       clear HB
       have BK316 := n0_
       have BK317 := n1_
       have BK324 := n2_
       have BK325 := n3_
       have HB := n4_
       clear n0_ n1_ n2_ n3_ n4_
       (try clear hb)
       (try clear hb2)
       (try clear hk)
       (try clear hi)
       refine hK.out _ _ ⟨(blk_cell BK316.out 0).trans rfl, (blk_cell BK316.out 1).trans rfl⟩ (fun hHeld => ?_)
       clear hK K
       refine norm_ (a' := ?_) ?_ ?_
       rotate_left
       ·show Act.put _ (some 53) _ = _
        simp only [Act.put, List.setIfInBounds_toArray, List.set_cons_zero, List.set_cons_succ, i64_w, i32_w]
        rfl
       refine pure_ (i := 10) (N := some 59) (v := ?_) (a' := ?_) #[true, true, true, true, true, true, true, true, true, true, true, false, false, false, false, false] rfl rfl (any_of HT_.out (by kernel_rfl)) (fun _ _ _ h => h) (Or.inl ⟨by rfl, ?_⟩) ?_ ?_
       rotate_left
       ·intro w'
        go_simp
        with_reducible rfl
       rotate_left
       ·simp only [Act.put, List.setIfInBounds_toArray, List.set_cons_zero, List.set_cons_succ, i64_w, i32_w]
        rfl
       refine pure_ (i := 11) (N := some 60) (v := ?_) (a' := ?_) #[true, true, true, true, true, true, true, true, true, true, true, true, false, false, false, false] rfl rfl (any_of HT_.out (by kernel_rfl)) (fun _ _ _ h => h) (Or.inl ⟨by rfl, ?_⟩) ?_ ?_
       rotate_left
       ·intro w'
        go_simp
        with_reducible rfl
       rotate_left
       ·simp only [Act.put, List.setIfInBounds_toArray, List.set_cons_zero, List.set_cons_succ, i64_w, i32_w]
        rfl
       refine pure_ (i := 12) (N := some 61) (v := ?_) (a' := ?_) #[true, true, true, true, true, true, true, true, true, true, true, true, true, false, false, false] rfl rfl (any_of HT_.out (by kernel_rfl)) (fun _ _ _ h => h) (Or.inl ⟨by rfl, ?_⟩) ?_ ?_
       rotate_left
       ·intro w'
        go_simp
        with_reducible rfl
       rotate_left
       ·simp only [Act.put, List.setIfInBounds_toArray, List.set_cons_zero, List.set_cons_succ, i64_w, i32_w]
        rfl
       refine pure_ (i := 13) (N := some 62) (v := undef) (a' := ?_) #[true, true, true, true, true, true, true, true, true, true, true, true, true, true, false, false] rfl rfl (any_of HT_.out (by kernel_rfl)) (fun _ _ _ h => h) (Or.inr ⟨by rfl, rfl⟩) ?_ ?_
       rotate_left
       ·simp only [Act.put, List.setIfInBounds_toArray, List.set_cons_zero, List.set_cons_succ, i64_w, i32_w]
        rfl
       refine pure_ (i := 14) (N := some 63) (v := undef) (a' := ?_) #[true, true, true, true, true, true, true, true, true, true, true, true, true, true, true, false] rfl rfl (any_of HT_.out (by kernel_rfl)) (fun _ _ _ h => h) (Or.inr ⟨by rfl, rfl⟩) ?_ ?_
       rotate_left
       ·simp only [Act.put, List.setIfInBounds_toArray, List.set_cons_zero, List.set_cons_succ, i64_w, i32_w]
        rfl
       refine pure_ (i := 15) (N := some 64) (v := ?_) (a' := ?_) #[true, true, true, true, true, true, true, true, true, true, true, true, true, true, true, true] rfl rfl (any_of HT_.out (by kernel_rfl)) (fun _ _ _ h => h) (Or.inl ⟨by rfl, ?_⟩) ?_ ?_
       rotate_left
       ·intro w'
        go_simp
        with_reducible rfl
       rotate_left
       ·simp only [Act.put, List.setIfInBounds_toArray, List.set_cons_zero, List.set_cons_succ, i64_w, i32_w]
        rfl
       refine done_ (done_of HT_.out (by kernel_rfl)) ?_
       try go_wp2
       go_meet
       case rel => exact ⟨_, (true), (by first | rfl | (simp; done) | (simp [*]; done)), H', ⟨by have := HJ2.out; first | omega | exact Nat.le_refl _⟩, ⟨by (with_reducible repeat (first | refine blk_drewN ?_ _ | refine blk_drew ?_ | refine blk_alloc ?_ _)); exact BK316.out⟩, ⟨by (with_reducible repeat (first | refine blk_drewN ?_ _ | refine blk_drew ?_ | refine blk_alloc ?_ _)); exact BK317.out⟩, ⟨by (with_reducible repeat (first | refine blk_drewN ?_ _ | refine blk_drew ?_ | refine blk_alloc ?_ _)); exact BK324.out⟩, ⟨by (with_reducible repeat (first | refine blk_drewN ?_ _ | refine blk_drew ?_ | refine blk_alloc ?_ _)); exact BK325.out⟩, ⟨by repeat (first | (with_reducible first | exact HB.out | apply below_alloc | apply pw_below_drewN | apply below_drew1 | refine below_set ?_ GE316.out | refine below_set ?_ GE317.out | refine below_set ?_ GE324.out | refine below_set ?_ GE325.out) | exact HB.out)⟩⟩
     ·replace c50 := Bool.eq_false_iff.mpr c50
      subst c50
      have H1 : (laws_FnRangeBoth.j1 kj2 ji33 ji34 true t320 t321 t322 t323) = some r := by rw [if_neg (show ¬ (false = true) by decide)] at H; exact H
      clear H
      have H := H1
      clear H1
      have H' := Aside0.mk H
      clear H
      try go_wp2
      have n0_ : Aside0 (((((w44.setCell ⟨gb324, 0, none⟩ (.int .i64 t320)).setCell ⟨gb324, 1, none⟩ (.int .i64 t321)).setCell ⟨gb325, 0, none⟩ (.int .i64 t322)).setCell ⟨gb325, 1, none⟩ (.int .i64 t323)).heap[gb316]? = some (.cells #[.int .i64 a0_0, .int .i64 a0_1] 24 (0, 0))) := ⟨by (with_reducible repeat (first | refine blk_drewN ?_ _ | refine blk_drew ?_ | refine blk_alloc ?_ _)); refine blk_far ?_ NB316_325.out _; (with_reducible repeat (first | refine blk_drewN ?_ _ | refine blk_drew ?_ | refine blk_alloc ?_ _)); refine blk_far ?_ NB316_325.out _; (with_reducible repeat (first | refine blk_drewN ?_ _ | refine blk_drew ?_ | refine blk_alloc ?_ _)); refine blk_far ?_ NB316_324.out _; (with_reducible repeat (first | refine blk_drewN ?_ _ | refine blk_drew ?_ | refine blk_alloc ?_ _)); refine blk_far ?_ NB316_324.out _; (with_reducible repeat (first | refine blk_drewN ?_ _ | refine blk_drew ?_ | refine blk_alloc ?_ _)); exact BK316.out⟩
      have n1_ : Aside0 (((((w44.setCell ⟨gb324, 0, none⟩ (.int .i64 t320)).setCell ⟨gb324, 1, none⟩ (.int .i64 t321)).setCell ⟨gb325, 0, none⟩ (.int .i64 t322)).setCell ⟨gb325, 1, none⟩ (.int .i64 t323)).heap[gb317]? = some (.cells #[.int .i64 a1_0, .int .i64 a1_1] 24 (0, 0))) := ⟨by (with_reducible repeat (first | refine blk_drewN ?_ _ | refine blk_drew ?_ | refine blk_alloc ?_ _)); refine blk_far ?_ NB317_325.out _; (with_reducible repeat (first | refine blk_drewN ?_ _ | refine blk_drew ?_ | refine blk_alloc ?_ _)); refine blk_far ?_ NB317_325.out _; (with_reducible repeat (first | refine blk_drewN ?_ _ | refine blk_drew ?_ | refine blk_alloc ?_ _)); refine blk_far ?_ NB317_324.out _; (with_reducible repeat (first | refine blk_drewN ?_ _ | refine blk_drew ?_ | refine blk_alloc ?_ _)); refine blk_far ?_ NB317_324.out _; (with_reducible repeat (first | refine blk_drewN ?_ _ | refine blk_drew ?_ | refine blk_alloc ?_ _)); exact BK317.out⟩
      have n2_ : Aside0 (((((w44.setCell ⟨gb324, 0, none⟩ (.int .i64 t320)).setCell ⟨gb324, 1, none⟩ (.int .i64 t321)).setCell ⟨gb325, 0, none⟩ (.int .i64 t322)).setCell ⟨gb325, 1, none⟩ (.int .i64 t323)).heap[gb324]? = some (.cells #[.int .i64 t320, .int .i64 t321] 24 (0, 0))) := ⟨by (with_reducible repeat (first | refine blk_drewN ?_ _ | refine blk_drew ?_ | refine blk_alloc ?_ _)); refine blk_far ?_ NB324_325.out _; (with_reducible repeat (first | refine blk_drewN ?_ _ | refine blk_drew ?_ | refine blk_alloc ?_ _)); refine blk_far ?_ NB324_325.out _; (with_reducible repeat (first | refine blk_drewN ?_ _ | refine blk_drew ?_ | refine blk_alloc ?_ _)); refine blk_put (cs := #[.int .i64 t320, .int .i64 0]) ?_ 1 _ rfl; (with_reducible repeat (first | refine blk_drewN ?_ _ | refine blk_drew ?_ | refine blk_alloc ?_ _)); refine blk_put (cs := #[.int .i64 0, .int .i64 0]) ?_ 0 _ rfl; (with_reducible repeat (first | refine blk_drewN ?_ _ | refine blk_drew ?_ | refine blk_alloc ?_ _)); exact BK324.out⟩
      have n3_ : Aside0 (((((w44.setCell ⟨gb324, 0, none⟩ (.int .i64 t320)).setCell ⟨gb324, 1, none⟩ (.int .i64 t321)).setCell ⟨gb325, 0, none⟩ (.int .i64 t322)).setCell ⟨gb325, 1, none⟩ (.int .i64 t323)).heap[gb325]? = some (.cells #[.int .i64 t322, .int .i64 t323] 24 (0, 0))) := ⟨by (with_reducible repeat (first | refine blk_drewN ?_ _ | refine blk_drew ?_ | refine blk_alloc ?_ _)); refine blk_put (cs := #[.int .i64 t322, .int .i64 0]) ?_ 1 _ rfl; (with_reducible repeat (first | refine blk_drewN ?_ _ | refine blk_drew ?_ | refine blk_alloc ?_ _)); refine blk_put (cs := #[.int .i64 0, .int .i64 0]) ?_ 0 _ rfl; (with_reducible repeat (first | refine blk_drewN ?_ _ | refine blk_drew ?_ | refine blk_alloc ?_ _)); refine blk_far ?_ NB325_324.out _; (with_reducible repeat (first | refine blk_drewN ?_ _ | refine blk_drew ?_ | refine blk_alloc ?_ _)); refine blk_far ?_ NB325_324.out _; (with_reducible repeat (first | refine blk_drewN ?_ _ | refine blk_drew ?_ | refine blk_alloc ?_ _)); exact BK325.out⟩
      have n4_ : Aside0 (Below w.heap.size w ((((w44.setCell ⟨gb324, 0, none⟩ (.int .i64 t320)).setCell ⟨gb324, 1, none⟩ (.int .i64 t321)).setCell ⟨gb325, 0, none⟩ (.int .i64 t322)).setCell ⟨gb325, 1, none⟩ (.int .i64 t323))) := ⟨by repeat (first | (with_reducible first | exact HB.out | apply below_alloc | apply pw_below_drewN | apply below_drew1 | refine below_set ?_ GE316.out | refine below_set ?_ GE317.out | refine below_set ?_ GE324.out | refine below_set ?_ GE325.out) | exact HB.out)⟩
      (try clear BK316)
      (try clear BK317)
      (try clear BK324)
      (try clear BK325)
      (try clear HB)
      generalize ((((w44.setCell ⟨gb324, 0, none⟩ (.int .i64 t320)).setCell ⟨gb324, 1, none⟩ (.int .i64 t321)).setCell ⟨gb325, 0, none⟩ (.int .i64 t322)).setCell ⟨gb325, 1, none⟩ (.int .i64 t323)) = w63 at n0_ n1_ n2_ n3_ n4_ ⊢
      have BK316 := n0_
      have BK317 := n1_
      have BK324 := n2_
      have BK325 := n3_
      have HB := n4_
      clear n0_ n1_ n2_ n3_ n4_
      have n0_ := Aside0.mk (blk_drew BK316.out)
      have n1_ := Aside0.mk (blk_drew BK317.out)
      have n2_ := Aside0.mk (blk_drew BK324.out)
      have n3_ := Aside0.mk (blk_drew BK325.out)
      have n4_ := Aside0.mk (below_drew1 HB.out)
      clear BK316
      clear BK317
      clear BK324
      clear BK325
      clear HB
      have BK316 := n0_
      have BK317 := n1_
      have BK324 := n2_
      have BK325 := n3_
      have HB := n4_
      clear n0_ n1_ n2_ n3_ n4_
      refine start_ (n := 16) (S := fun w' => True) (ds := []) #[false, false, false, false, false, false, false, false, false, false, false, false, false, false, false, false] (by kernel_rfl) rfl rfl trivial (fun hHeld => ?_); refine with_tabW laws_FnRangeBoth.tab5 laws_FnRangeBoth.bits5 (fun HT_ HW_ => ?_)
      generalize w63.drew = w64 at BK316 BK317 BK324 BK325 HB hHeld ⊢
      refine one_ (i := 0) (N := some 49) #[true, false, false, false, false, false, false, false, false, false, false, false, false, false, false, false] rfl rfl (one_of HT_.out (by kernel_rfl)) (by decide) (fun K hK => ?_)
      refine goes_ Try.func13 (by kernel_rfl) rfl #[] (by rfl) rfl rfl (by (try simp only [List.map_toArray, List.map_cons, List.map_nil]); first | done | rfl | (simp only [List.length_drop, List.length_take]; rfl)) ?_
      with_reducible refine (laws_rangeAwake.calls kj2  false _ A49.out).mono ?_
      rintro e w65 ⟨rfl, hb⟩
      refine ⟨_, rfl, ?_⟩
      have n0_ := Aside0.mk (blk_below (g := gb316) (o := .cells #[.int .i64 a0_0, .int .i64 a0_1] 24 (0, 0)) (by (with_reducible repeat (first | refine blk_drewN ?_ _ | refine blk_drew ?_ | refine blk_alloc ?_ _)); exact BK316.out) hb)
      have n1_ := Aside0.mk (blk_below (g := gb317) (o := .cells #[.int .i64 a1_0, .int .i64 a1_1] 24 (0, 0)) (by (with_reducible repeat (first | refine blk_drewN ?_ _ | refine blk_drew ?_ | refine blk_alloc ?_ _)); exact BK317.out) hb)
      have n2_ := Aside0.mk (blk_below (g := gb324) (o := .cells #[.int .i64 t320, .int .i64 t321] 24 (0, 0)) (by (with_reducible repeat (first | refine blk_drewN ?_ _ | refine blk_drew ?_ | refine blk_alloc ?_ _)); exact BK324.out) hb)
      have n3_ := Aside0.mk (blk_below (g := gb325) (o := .cells #[.int .i64 t322, .int .i64 t323] 24 (0, 0)) (by (with_reducible repeat (first | refine blk_drewN ?_ _ | refine blk_drew ?_ | refine blk_alloc ?_ _)); exact BK325.out) hb)
      have n4_ := Aside0.mk (below_step (by repeat (first | (with_reducible first | exact HB.out | apply below_alloc | apply pw_below_drewN | apply below_drew1 | refine below_set ?_ GE316.out | refine below_set ?_ GE317.out | refine below_set ?_ GE324.out | refine below_set ?_ GE325.out) | exact HB.out)) hb)
      clear BK316
      clear BK317
      clear BK324
      clear BK325
      clear HB
      have BK316 := n0_
      have BK317 := n1_
      have BK324 := n2_
      have BK325 := n3_
      have HB := n4_
      clear n0_ n1_ n2_ n3_ n4_
      (try clear hb)
      (try clear hb2)
      (try clear hk)
      (try clear hi)
      refine hK.out _ _ trivial (fun hHeld => ?_)
      clear hK K
      refine norm_ (a' := ?_) ?_ ?_
      rotate_left
      ·show Act.put _ (some 49) _ = _
       simp only [Act.put, List.setIfInBounds_toArray, List.set_cons_zero, List.set_cons_succ, i64_w, i32_w]
       rfl
      refine pure_ (i := 1) (N := some 50) (v := ?_) (a' := ?_) #[true, true, false, false, false, false, false, false, false, false, false, false, false, false, false, false] rfl rfl (any_of HT_.out (by kernel_rfl)) (fun _ _ _ h => h) (Or.inl ⟨by rfl, ?_⟩) ?_ ?_
      rotate_left
      ·intro w'
       go_simp
       with_reducible rfl
      rotate_left
      ·simp only [Act.put, List.setIfInBounds_toArray, List.set_cons_zero, List.set_cons_succ, i64_w, i32_w]
       rfl
      refine pure_ (i := 2) (N := some 51) (v := ?_) (a' := ?_) #[true, true, true, false, false, false, false, false, false, false, false, false, false, false, false, false] rfl rfl (any_of HT_.out (by kernel_rfl)) (fun _ _ _ h => h) (Or.inl ⟨by rfl, ?_⟩) ?_ ?_
      rotate_left
      ·intro w'
       go_simp
       with_reducible rfl
      rotate_left
      ·simp only [Act.put, List.setIfInBounds_toArray, List.set_cons_zero, List.set_cons_succ, i64_w, i32_w]
       rfl
      refine pure_ (i := 3) (N := some 52) (v := undef) (a' := ?_) #[true, true, true, true, false, false, false, false, false, false, false, false, false, false, false, false] rfl rfl (any_of HT_.out (by kernel_rfl)) (fun _ _ _ h => h) (Or.inr ⟨by rfl, rfl⟩) ?_ ?_
      rotate_left
      ·simp only [Act.put, List.setIfInBounds_toArray, List.set_cons_zero, List.set_cons_succ, i64_w, i32_w]
       rfl
      refine pure_ (i := 4) (N := some 53) (v := undef) (a' := ?_) #[true, true, true, true, true, false, false, false, false, false, false, false, false, false, false, false] rfl rfl (any_of HT_.out (by kernel_rfl)) (fun _ _ _ h => h) (Or.inr ⟨by rfl, rfl⟩) ?_ ?_
      rotate_left
      ·simp only [Act.put, List.setIfInBounds_toArray, List.set_cons_zero, List.set_cons_succ, i64_w, i32_w]
       rfl
      refine pure_ (i := 5) (N := some 54) (v := undef) (a' := ?_) #[true, true, true, true, true, true, false, false, false, false, false, false, false, false, false, false] rfl rfl (any_of HT_.out (by kernel_rfl)) (fun _ _ _ h => h) (Or.inr ⟨by rfl, rfl⟩) ?_ ?_
      rotate_left
      ·simp only [Act.put, List.setIfInBounds_toArray, List.set_cons_zero, List.set_cons_succ, i64_w, i32_w]
       rfl
      refine pure_ (i := 6) (N := some 55) (v := undef) (a' := ?_) #[true, true, true, true, true, true, true, false, false, false, false, false, false, false, false, false] rfl rfl (any_of HT_.out (by kernel_rfl)) (fun _ _ _ h => h) (Or.inr ⟨by rfl, rfl⟩) ?_ ?_
      rotate_left
      ·simp only [Act.put, List.setIfInBounds_toArray, List.set_cons_zero, List.set_cons_succ, i64_w, i32_w]
       rfl
      refine pure_ (i := 7) (N := some 56) (v := undef) (a' := ?_) #[true, true, true, true, true, true, true, true, false, false, false, false, false, false, false, false] rfl rfl (any_of HT_.out (by kernel_rfl)) (fun _ _ _ h => h) (Or.inr ⟨by rfl, rfl⟩) ?_ ?_
      rotate_left
      ·simp only [Act.put, List.setIfInBounds_toArray, List.set_cons_zero, List.set_cons_succ, i64_w, i32_w]
       rfl
      refine pure_ (i := 8) (N := some 57) (v := undef) (a' := ?_) #[true, true, true, true, true, true, true, true, true, false, false, false, false, false, false, false] rfl rfl (any_of HT_.out (by kernel_rfl)) (fun _ _ _ h => h) (Or.inr ⟨by rfl, rfl⟩) ?_ ?_
      rotate_left
      ·simp only [Act.put, List.setIfInBounds_toArray, List.set_cons_zero, List.set_cons_succ, i64_w, i32_w]
       rfl
      refine pure_ (i := 9) (N := some 58) (v := undef) (a' := ?_) #[true, true, true, true, true, true, true, true, true, true, false, false, false, false, false, false] rfl rfl (any_of HT_.out (by kernel_rfl)) (fun _ _ _ h => h) (Or.inr ⟨by rfl, rfl⟩) ?_ ?_
      rotate_left
      ·simp only [Act.put, List.setIfInBounds_toArray, List.set_cons_zero, List.set_cons_succ, i64_w, i32_w]
       rfl
      refine pure_ (i := 10) (N := some 59) (v := undef) (a' := ?_) #[true, true, true, true, true, true, true, true, true, true, true, false, false, false, false, false] rfl rfl (any_of HT_.out (by kernel_rfl)) (fun _ _ _ h => h) (Or.inr ⟨by rfl, rfl⟩) ?_ ?_
      rotate_left
      ·simp only [Act.put, List.setIfInBounds_toArray, List.set_cons_zero, List.set_cons_succ, i64_w, i32_w]
       rfl
      refine pure_ (i := 11) (N := some 60) (v := ?_) (a' := ?_) #[true, true, true, true, true, true, true, true, true, true, true, true, false, false, false, false] rfl rfl (any_of HT_.out (by kernel_rfl)) (fun _ _ _ h => h) (Or.inl ⟨by rfl, ?_⟩) ?_ ?_
      rotate_left
      ·intro w'
       go_simp
       with_reducible rfl
      rotate_left
      ·simp only [Act.put, List.setIfInBounds_toArray, List.set_cons_zero, List.set_cons_succ, i64_w, i32_w]
       rfl
      refine pure_ (i := 12) (N := some 61) (v := ?_) (a' := ?_) #[true, true, true, true, true, true, true, true, true, true, true, true, true, false, false, false] rfl rfl (any_of HT_.out (by kernel_rfl)) (fun _ _ _ h => h) (Or.inl ⟨by rfl, ?_⟩) ?_ ?_
      rotate_left
      ·intro w'
       go_simp
       with_reducible rfl
      rotate_left
      ·simp only [Act.put, List.setIfInBounds_toArray, List.set_cons_zero, List.set_cons_succ, i64_w, i32_w]
       rfl
      refine pure_ (i := 13) (N := some 62) (v := undef) (a' := ?_) #[true, true, true, true, true, true, true, true, true, true, true, true, true, true, false, false] rfl rfl (any_of HT_.out (by kernel_rfl)) (fun _ _ _ h => h) (Or.inr ⟨by rfl, rfl⟩) ?_ ?_
      rotate_left
      ·simp only [Act.put, List.setIfInBounds_toArray, List.set_cons_zero, List.set_cons_succ, i64_w, i32_w]
       rfl
      refine pure_ (i := 14) (N := some 63) (v := undef) (a' := ?_) #[true, true, true, true, true, true, true, true, true, true, true, true, true, true, true, false] rfl rfl (any_of HT_.out (by kernel_rfl)) (fun _ _ _ h => h) (Or.inr ⟨by rfl, rfl⟩) ?_ ?_
      rotate_left
      ·simp only [Act.put, List.setIfInBounds_toArray, List.set_cons_zero, List.set_cons_succ, i64_w, i32_w]
       rfl
      refine pure_ (i := 15) (N := some 64) (v := ?_) (a' := ?_) #[true, true, true, true, true, true, true, true, true, true, true, true, true, true, true, true] rfl rfl (any_of HT_.out (by kernel_rfl)) (fun _ _ _ h => h) (Or.inl ⟨by rfl, ?_⟩) ?_ ?_
      rotate_left
      ·intro w'
       go_simp
       with_reducible rfl
      rotate_left
      ·simp only [Act.put, List.setIfInBounds_toArray, List.set_cons_zero, List.set_cons_succ, i64_w, i32_w]
       rfl
      refine done_ (done_of HT_.out (by kernel_rfl)) ?_
      try go_wp2
      go_meet
      case rel => exact ⟨_, (true), (by first | rfl | (simp; done) | (simp [*]; done)), H', ⟨by have := HJ2.out; first | omega | exact Nat.le_refl _⟩, ⟨by (with_reducible repeat (first | refine blk_drewN ?_ _ | refine blk_drew ?_ | refine blk_alloc ?_ _)); exact BK316.out⟩, ⟨by (with_reducible repeat (first | refine blk_drewN ?_ _ | refine blk_drew ?_ | refine blk_alloc ?_ _)); exact BK317.out⟩, ⟨by (with_reducible repeat (first | refine blk_drewN ?_ _ | refine blk_drew ?_ | refine blk_alloc ?_ _)); exact BK324.out⟩, ⟨by (with_reducible repeat (first | refine blk_drewN ?_ _ | refine blk_drew ?_ | refine blk_alloc ?_ _)); exact BK325.out⟩, ⟨by repeat (first | (with_reducible first | exact HB.out | apply below_alloc | apply pw_below_drewN | apply below_drew1 | refine below_set ?_ GE316.out | refine below_set ?_ GE317.out | refine below_set ?_ GE324.out | refine below_set ?_ GE325.out) | exact HB.out)⟩⟩
    case rest =>
     clear HC37
     try clear c1
     try clear c2
     try clear p2
     try clear c5
     try clear p6
     try clear c13
     try clear c21
     try clear c22
     try clear c50
     try clear c52
     try clear c52b0
     try clear c52b1
     try clear p64
     obtain ⟨kq, x64_36, rfl, HA, HJ36, BK316, BK317, BK324, BK325, HB⟩ := hcut
     cases kq with
     | zero => exact absurd HA.out (by simp [laws_FnRangeBoth.j1])
     | succ kj36 =>
      have H := HA.out
      clear HA
      simp only [laws_FnRangeBoth.j1] at H
      by_cases c66 : x64_36 = true
      ·subst c66
       have H1 : (some false) = some r := by rw [if_pos rfl] at H; exact H
       clear H
       have H := H1
       clear H1
       obtain rfl := Option.some.inj H
       go_wp2
       go_ret
       exact ⟨by first | rfl | (simp [errW_none, errW_some] <;> rfl) | (simp only [← hji33, ← hji34]; first | rfl | (simp [errW_none, errW_some] <;> rfl)) | (simp [*, errW_none, errW_some] <;> rfl), by repeat (first | (with_reducible first | exact HB.out | apply below_alloc | apply pw_below_drewN | apply below_drew1 | refine below_set ?_ GE316.out | refine below_set ?_ GE317.out | refine below_set ?_ GE324.out | refine below_set ?_ GE325.out) | exact HB.out)⟩
      ·replace c66 := Bool.eq_false_iff.mpr c66
       subst c66
       have H1 : (if ji33 ≥ ji34 then ((impl_RangeEmpty.f t320 t321).bind fun t329 => (if t329 = true then (if (t320 == t322 && (t321 == t323)) = true then (some (t320 == 0 && (t321 == 0))) else (some false)) else (some false))) else (if (t320 == ji33 && (t321 == (wrap64 (ji34 - ji33)))) = true then (if (t320 == t322 && (t321 == t323)) = true then ((impl_RangeEmpty.f t320 t321).bind fun t330 => (if t330 = true then (some false) else ((impl_RangeEnd.f t320 t321).bind fun t331 => (some (t331 == ji34))))) else (some false)) else (some false))) = some r := by rw [if_neg (show ¬ (false = true) by decide)] at H; exact H
       clear H
       have H := H1
       clear H1
       by_cases c67 : ji33 ≥ ji34
       ·rw [if_pos c67] at H
        have c67b0 : decide (ji34 ≤ ji33) = true := decide_eq_true c67
        clear c67
        replace H := Option.bind_eq_some_iff.mp H
        obtain ⟨t329, A680, H⟩ := H
        replace H : (if t329 = true then (if (t320 == t322 && (t321 == t323)) = true then (some (t320 == 0 && (t321 == 0))) else (some false)) else (some false)) = some r := H
        have A68 := Aside0.mk A680
        clear A680
        by_cases c69 : t329 = true
        ·subst c69
         have H1 : (if (t320 == t322 && (t321 == t323)) = true then (some (t320 == 0 && (t321 == 0))) else (some false)) = some r := by rw [if_pos rfl] at H; exact H
         clear H
         have H := H1
         clear H1
         by_cases c70 : (t320 == t322 && (t321 == t323)) = true
         ·rw [if_pos c70] at H
          have c70b0 : (t320 == t322 && (t321 == t323)) = true := c70
          (try (have c70b1 : decide (t320 = t322 && (t321 == t323)) = true := by simpa using c70))
          (try (have c70b2 : (t320 == t322 && (t321 == t323)) = true := by simpa using c70))
          clear c70
          obtain rfl := Option.some.inj H
          have hnb71 := NB324_316.out
          have hnc71 := NB316_324.out
          have hnb72 := NB324_317.out
          have hnc72 := NB317_324.out
          have hnb73 := NB324_325.out
          have hnc73 := NB325_324.out
          have hcz74_0 : wc.cell? ⟨gb324, 0, none⟩ = some (.int .i64 t320) := (blk_cell BK324.out 0).trans rfl
          have hcz74_1 : wc.cell? ⟨gb324, 1, none⟩ = some (.int .i64 t321) := (blk_cell BK324.out 1).trans rfl
          have hfz74_0 := blk_frozen BK324.out 0
          have hfz74_1 := blk_frozen BK324.out 1
          go_wp2_with (first | ((with_reducible refine gate_dst (N := 69) rfl ?_); refine goesL_ (some 69) rfl rfl Try.func22 (by kernel_rfl) rfl #[.agg #[.int .i64 t320, .int .i64 t321]] rfl (by (try simp only [List.map_toArray, List.map_cons, List.map_nil]); first | done | rfl | (simp only [List.length_drop, List.length_take]; rfl)) ?_; (with_reducible refine (impl_RangeEmpty.calls t320 t321 true _ A68.out).mono ?_); rintro e w75 ⟨rfl, hb⟩; refine ⟨_, rfl, ?_⟩; have n0_ := Aside0.mk (blk_below (g := gb316) (o := .cells #[.int .i64 a0_0, .int .i64 a0_1] 24 (0, 0)) (by (with_reducible repeat (first | refine blk_drewN ?_ _ | refine blk_drew ?_ | refine blk_alloc ?_ _)); exact BK316.out) hb); have n1_ := Aside0.mk (blk_below (g := gb317) (o := .cells #[.int .i64 a1_0, .int .i64 a1_1] 24 (0, 0)) (by (with_reducible repeat (first | refine blk_drewN ?_ _ | refine blk_drew ?_ | refine blk_alloc ?_ _)); exact BK317.out) hb); have n2_ := Aside0.mk (blk_below (g := gb324) (o := .cells #[.int .i64 t320, .int .i64 t321] 24 (0, 0)) (by (with_reducible repeat (first | refine blk_drewN ?_ _ | refine blk_drew ?_ | refine blk_alloc ?_ _)); exact BK324.out) hb); have n3_ := Aside0.mk (blk_below (g := gb325) (o := .cells #[.int .i64 t322, .int .i64 t323] 24 (0, 0)) (by (with_reducible repeat (first | refine blk_drewN ?_ _ | refine blk_drew ?_ | refine blk_alloc ?_ _)); exact BK325.out) hb); have n4_ := Aside0.mk (below_step (by repeat (first | (with_reducible first | exact HB.out | apply below_alloc | apply pw_below_drewN | apply below_drew1 | refine below_set ?_ GE316.out | refine below_set ?_ GE317.out | refine below_set ?_ GE324.out | refine below_set ?_ GE325.out) | exact HB.out)) hb); clear BK316; clear BK317; clear BK324; clear BK325; clear HB; have BK316 := n0_; have BK317 := n1_; have BK324 := n2_; have BK325 := n3_; have HB := n4_; clear n0_ n1_ n2_ n3_ n4_; (try clear hb); (try clear hb2); (try clear hk); (try clear hi); have hcz76_0 : w75.cell? ⟨gb324, 0, none⟩ = some (.int .i64 t320) := (blk_cell BK324.out 0).trans rfl; have hcz76_1 : w75.cell? ⟨gb324, 1, none⟩ = some (.int .i64 t321) := (blk_cell BK324.out 1).trans rfl; have hfz76_0 := blk_frozen BK324.out 0; have hfz76_1 := blk_frozen BK324.out 1; have hnb77 := NB325_316.out; have hnc77 := NB316_325.out; have hnb78 := NB325_317.out; have hnc78 := NB317_325.out; have hcz79_0 : w75.cell? ⟨gb325, 0, none⟩ = some (.int .i64 t322) := (blk_cell BK325.out 0).trans rfl; have hcz79_1 : w75.cell? ⟨gb325, 1, none⟩ = some (.int .i64 t323) := (blk_cell BK325.out 1).trans rfl; have hfz79_0 := blk_frozen BK325.out 0; have hfz79_1 := blk_frozen BK325.out 1))
          go_ret
          exact ⟨by first | rfl | (simp [errW_none, errW_some] <;> rfl) | (simp only [← hji33, ← hji34]; first | rfl | (simp [errW_none, errW_some] <;> rfl)) | (simp [*, errW_none, errW_some] <;> rfl), by repeat (first | (with_reducible first | exact HB.out | apply below_alloc | apply pw_below_drewN | apply below_drew1 | refine below_set ?_ GE316.out | refine below_set ?_ GE317.out | refine below_set ?_ GE324.out | refine below_set ?_ GE325.out) | exact HB.out)⟩
         ·rw [if_neg c70] at H
          have c70b0 : (t320 == t322 && (t321 == t323)) = false := by simpa using c70
          (try (have c70b1 : decide (t320 = t322 && (t321 == t323)) = false := by simpa using c70))
          (try (have c70b2 : (t320 == t322 && (t321 == t323)) = false := by simpa using c70))
          (try (have c70b3 : ¬ (t320 = t322 && (t321 == t323)) := by simpa using c70))
          clear c70
          obtain rfl := Option.some.inj H
          have hnb80 := NB324_316.out
          have hnc80 := NB316_324.out
          have hnb81 := NB324_317.out
          have hnc81 := NB317_324.out
          have hnb82 := NB324_325.out
          have hnc82 := NB325_324.out
          have hcz83_0 : wc.cell? ⟨gb324, 0, none⟩ = some (.int .i64 t320) := (blk_cell BK324.out 0).trans rfl
          have hcz83_1 : wc.cell? ⟨gb324, 1, none⟩ = some (.int .i64 t321) := (blk_cell BK324.out 1).trans rfl
          have hfz83_0 := blk_frozen BK324.out 0
          have hfz83_1 := blk_frozen BK324.out 1
          go_wp2_with (first | ((with_reducible refine gate_dst (N := 69) rfl ?_); refine goesL_ (some 69) rfl rfl Try.func22 (by kernel_rfl) rfl #[.agg #[.int .i64 t320, .int .i64 t321]] rfl (by (try simp only [List.map_toArray, List.map_cons, List.map_nil]); first | done | rfl | (simp only [List.length_drop, List.length_take]; rfl)) ?_; (with_reducible refine (impl_RangeEmpty.calls t320 t321 true _ A68.out).mono ?_); rintro e w84 ⟨rfl, hb⟩; refine ⟨_, rfl, ?_⟩; have n0_ := Aside0.mk (blk_below (g := gb316) (o := .cells #[.int .i64 a0_0, .int .i64 a0_1] 24 (0, 0)) (by (with_reducible repeat (first | refine blk_drewN ?_ _ | refine blk_drew ?_ | refine blk_alloc ?_ _)); exact BK316.out) hb); have n1_ := Aside0.mk (blk_below (g := gb317) (o := .cells #[.int .i64 a1_0, .int .i64 a1_1] 24 (0, 0)) (by (with_reducible repeat (first | refine blk_drewN ?_ _ | refine blk_drew ?_ | refine blk_alloc ?_ _)); exact BK317.out) hb); have n2_ := Aside0.mk (blk_below (g := gb324) (o := .cells #[.int .i64 t320, .int .i64 t321] 24 (0, 0)) (by (with_reducible repeat (first | refine blk_drewN ?_ _ | refine blk_drew ?_ | refine blk_alloc ?_ _)); exact BK324.out) hb); have n3_ := Aside0.mk (blk_below (g := gb325) (o := .cells #[.int .i64 t322, .int .i64 t323] 24 (0, 0)) (by (with_reducible repeat (first | refine blk_drewN ?_ _ | refine blk_drew ?_ | refine blk_alloc ?_ _)); exact BK325.out) hb); have n4_ := Aside0.mk (below_step (by repeat (first | (with_reducible first | exact HB.out | apply below_alloc | apply pw_below_drewN | apply below_drew1 | refine below_set ?_ GE316.out | refine below_set ?_ GE317.out | refine below_set ?_ GE324.out | refine below_set ?_ GE325.out) | exact HB.out)) hb); clear BK316; clear BK317; clear BK324; clear BK325; clear HB; have BK316 := n0_; have BK317 := n1_; have BK324 := n2_; have BK325 := n3_; have HB := n4_; clear n0_ n1_ n2_ n3_ n4_; (try clear hb); (try clear hb2); (try clear hk); (try clear hi); have hcz85_0 : w84.cell? ⟨gb324, 0, none⟩ = some (.int .i64 t320) := (blk_cell BK324.out 0).trans rfl; have hcz85_1 : w84.cell? ⟨gb324, 1, none⟩ = some (.int .i64 t321) := (blk_cell BK324.out 1).trans rfl; have hfz85_0 := blk_frozen BK324.out 0; have hfz85_1 := blk_frozen BK324.out 1; have hnb86 := NB325_316.out; have hnc86 := NB316_325.out; have hnb87 := NB325_317.out; have hnc87 := NB317_325.out; have hcz88_0 : w84.cell? ⟨gb325, 0, none⟩ = some (.int .i64 t322) := (blk_cell BK325.out 0).trans rfl; have hcz88_1 : w84.cell? ⟨gb325, 1, none⟩ = some (.int .i64 t323) := (blk_cell BK325.out 1).trans rfl; have hfz88_0 := blk_frozen BK325.out 0; have hfz88_1 := blk_frozen BK325.out 1))
          go_ret
          exact ⟨by first | rfl | (simp [errW_none, errW_some] <;> rfl) | (simp only [← hji33, ← hji34]; first | rfl | (simp [errW_none, errW_some] <;> rfl)) | (simp [*, errW_none, errW_some] <;> rfl), by repeat (first | (with_reducible first | exact HB.out | apply below_alloc | apply pw_below_drewN | apply below_drew1 | refine below_set ?_ GE316.out | refine below_set ?_ GE317.out | refine below_set ?_ GE324.out | refine below_set ?_ GE325.out) | exact HB.out)⟩
        ·replace c69 := Bool.eq_false_iff.mpr c69
         subst c69
         have H1 : (some false) = some r := by rw [if_neg (show ¬ (false = true) by decide)] at H; exact H
         clear H
         have H := H1
         clear H1
         obtain rfl := Option.some.inj H
         have hnb89 := NB324_316.out
         have hnc89 := NB316_324.out
         have hnb90 := NB324_317.out
         have hnc90 := NB317_324.out
         have hnb91 := NB324_325.out
         have hnc91 := NB325_324.out
         have hcz92_0 : wc.cell? ⟨gb324, 0, none⟩ = some (.int .i64 t320) := (blk_cell BK324.out 0).trans rfl
         have hcz92_1 : wc.cell? ⟨gb324, 1, none⟩ = some (.int .i64 t321) := (blk_cell BK324.out 1).trans rfl
         have hfz92_0 := blk_frozen BK324.out 0
         have hfz92_1 := blk_frozen BK324.out 1
         go_wp2_with (first | ((with_reducible refine gate_dst (N := 69) rfl ?_); refine goesL_ (some 69) rfl rfl Try.func22 (by kernel_rfl) rfl #[.agg #[.int .i64 t320, .int .i64 t321]] rfl (by (try simp only [List.map_toArray, List.map_cons, List.map_nil]); first | done | rfl | (simp only [List.length_drop, List.length_take]; rfl)) ?_; (with_reducible refine (impl_RangeEmpty.calls t320 t321 false _ A68.out).mono ?_); rintro e w93 ⟨rfl, hb⟩; refine ⟨_, rfl, ?_⟩; have n0_ := Aside0.mk (blk_below (g := gb316) (o := .cells #[.int .i64 a0_0, .int .i64 a0_1] 24 (0, 0)) (by (with_reducible repeat (first | refine blk_drewN ?_ _ | refine blk_drew ?_ | refine blk_alloc ?_ _)); exact BK316.out) hb); have n1_ := Aside0.mk (blk_below (g := gb317) (o := .cells #[.int .i64 a1_0, .int .i64 a1_1] 24 (0, 0)) (by (with_reducible repeat (first | refine blk_drewN ?_ _ | refine blk_drew ?_ | refine blk_alloc ?_ _)); exact BK317.out) hb); have n2_ := Aside0.mk (blk_below (g := gb324) (o := .cells #[.int .i64 t320, .int .i64 t321] 24 (0, 0)) (by (with_reducible repeat (first | refine blk_drewN ?_ _ | refine blk_drew ?_ | refine blk_alloc ?_ _)); exact BK324.out) hb); have n3_ := Aside0.mk (blk_below (g := gb325) (o := .cells #[.int .i64 t322, .int .i64 t323] 24 (0, 0)) (by (with_reducible repeat (first | refine blk_drewN ?_ _ | refine blk_drew ?_ | refine blk_alloc ?_ _)); exact BK325.out) hb); have n4_ := Aside0.mk (below_step (by repeat (first | (with_reducible first | exact HB.out | apply below_alloc | apply pw_below_drewN | apply below_drew1 | refine below_set ?_ GE316.out | refine below_set ?_ GE317.out | refine below_set ?_ GE324.out | refine below_set ?_ GE325.out) | exact HB.out)) hb); clear BK316; clear BK317; clear BK324; clear BK325; clear HB; have BK316 := n0_; have BK317 := n1_; have BK324 := n2_; have BK325 := n3_; have HB := n4_; clear n0_ n1_ n2_ n3_ n4_; (try clear hb); (try clear hb2); (try clear hk); (try clear hi)))
         go_ret
         exact ⟨by first | rfl | (simp [errW_none, errW_some] <;> rfl) | (simp only [← hji33, ← hji34]; first | rfl | (simp [errW_none, errW_some] <;> rfl)) | (simp [*, errW_none, errW_some] <;> rfl), by repeat (first | (with_reducible first | exact HB.out | apply below_alloc | apply pw_below_drewN | apply below_drew1 | refine below_set ?_ GE316.out | refine below_set ?_ GE317.out | refine below_set ?_ GE324.out | refine below_set ?_ GE325.out) | exact HB.out)⟩
       ·rw [if_neg c67] at H
        have c67b0 : decide (ji34 ≤ ji33) = false := decide_eq_false c67
        clear c67
        by_cases c94 : (t320 == ji33 && (t321 == (wrap64 (ji34 - ji33)))) = true
        ·rw [if_pos c94] at H
         have c94b0 : (t320 == ji33 && (t321 == (wrap64 (ji34 - ji33)))) = true := c94
         (try (have c94b1 : decide (t320 = ji33 && (t321 == (wrap64 (ji34 - ji33)))) = true := by simpa using c94))
         (try (have c94b2 : (t320 == ji33 && (t321 == (wrap64 (ji34 - ji33)))) = true := by simpa using c94))
         clear c94
         by_cases c95 : (t320 == t322 && (t321 == t323)) = true
         ·rw [if_pos c95] at H
          have c95b0 : (t320 == t322 && (t321 == t323)) = true := c95
          (try (have c95b1 : decide (t320 = t322 && (t321 == t323)) = true := by simpa using c95))
          (try (have c95b2 : (t320 == t322 && (t321 == t323)) = true := by simpa using c95))
          clear c95
          replace H := Option.bind_eq_some_iff.mp H
          obtain ⟨t330, A960, H⟩ := H
          replace H : (if t330 = true then (some false) else ((impl_RangeEnd.f t320 t321).bind fun t331 => (some (t331 == ji34)))) = some r := H
          have A96 := Aside0.mk A960
          clear A960
          by_cases c97 : t330 = true
          ·subst c97
           have H1 : (some false) = some r := by rw [if_pos rfl] at H; exact H
           clear H
           have H := H1
           clear H1
           obtain rfl := Option.some.inj H
           have hnb98 := NB324_316.out
           have hnc98 := NB316_324.out
           have hnb99 := NB324_317.out
           have hnc99 := NB317_324.out
           have hnb100 := NB324_325.out
           have hnc100 := NB325_324.out
           have hcz101_0 : wc.cell? ⟨gb324, 0, none⟩ = some (.int .i64 t320) := (blk_cell BK324.out 0).trans rfl
           have hcz101_1 : wc.cell? ⟨gb324, 1, none⟩ = some (.int .i64 t321) := (blk_cell BK324.out 1).trans rfl
           have hfz101_0 := blk_frozen BK324.out 0
           have hfz101_1 := blk_frozen BK324.out 1
           have hnb102 := NB325_316.out
           have hnc102 := NB316_325.out
           have hnb103 := NB325_317.out
           have hnc103 := NB317_325.out
           have hcz104_0 : wc.cell? ⟨gb325, 0, none⟩ = some (.int .i64 t322) := (blk_cell BK325.out 0).trans rfl
           have hcz104_1 : wc.cell? ⟨gb325, 1, none⟩ = some (.int .i64 t323) := (blk_cell BK325.out 1).trans rfl
           have hfz104_0 := blk_frozen BK325.out 0
           have hfz104_1 := blk_frozen BK325.out 1
           go_wp2_with (first | (go_at_call 22; (with_reducible refine (impl_RangeEmpty.calls t320 t321 true _ A96.out).mono ?_); rintro e w105 ⟨rfl, hb⟩; have n0_ := Aside0.mk (blk_below (g := gb316) (o := .cells #[.int .i64 a0_0, .int .i64 a0_1] 24 (0, 0)) (by (with_reducible repeat (first | refine blk_drewN ?_ _ | refine blk_drew ?_ | refine blk_alloc ?_ _)); exact BK316.out) hb); have n1_ := Aside0.mk (blk_below (g := gb317) (o := .cells #[.int .i64 a1_0, .int .i64 a1_1] 24 (0, 0)) (by (with_reducible repeat (first | refine blk_drewN ?_ _ | refine blk_drew ?_ | refine blk_alloc ?_ _)); exact BK317.out) hb); have n2_ := Aside0.mk (blk_below (g := gb324) (o := .cells #[.int .i64 t320, .int .i64 t321] 24 (0, 0)) (by (with_reducible repeat (first | refine blk_drewN ?_ _ | refine blk_drew ?_ | refine blk_alloc ?_ _)); exact BK324.out) hb); have n3_ := Aside0.mk (blk_below (g := gb325) (o := .cells #[.int .i64 t322, .int .i64 t323] 24 (0, 0)) (by (with_reducible repeat (first | refine blk_drewN ?_ _ | refine blk_drew ?_ | refine blk_alloc ?_ _)); exact BK325.out) hb); have n4_ := Aside0.mk (below_step (by repeat (first | (with_reducible first | exact HB.out | apply below_alloc | apply pw_below_drewN | apply below_drew1 | refine below_set ?_ GE316.out | refine below_set ?_ GE317.out | refine below_set ?_ GE324.out | refine below_set ?_ GE325.out) | exact HB.out)) hb); clear BK316; clear BK317; clear BK324; clear BK325; clear HB; have BK316 := n0_; have BK317 := n1_; have BK324 := n2_; have BK325 := n3_; have HB := n4_; clear n0_ n1_ n2_ n3_ n4_; (try clear hb); (try clear hb2); (try clear hk); (try clear hi)))
           go_ret
           exact ⟨by first | rfl | (simp [errW_none, errW_some] <;> rfl) | (simp only [← hji33, ← hji34]; first | rfl | (simp [errW_none, errW_some] <;> rfl)) | (simp [*, errW_none, errW_some] <;> rfl), by repeat (first | (with_reducible first | exact HB.out | apply below_alloc | apply pw_below_drewN | apply below_drew1 | refine below_set ?_ GE316.out | refine below_set ?_ GE317.out | refine below_set ?_ GE324.out | refine below_set ?_ GE325.out) | exact HB.out)⟩
          ·replace c97 := Bool.eq_false_iff.mpr c97
           subst c97
           have H1 : ((impl_RangeEnd.f t320 t321).bind fun t331 => (some (t331 == ji34))) = some r := by rw [if_neg (show ¬ (false = true) by decide)] at H; exact H
           clear H
           have H := H1
           clear H1
           replace H := Option.bind_eq_some_iff.mp H
           obtain ⟨t331, A1060, H⟩ := H
           replace H : (some (t331 == ji34)) = some r := H
           have A106 := Aside0.mk A1060
           clear A1060
           obtain rfl := Option.some.inj H
           have hnb107 := NB324_316.out
           have hnc107 := NB316_324.out
           have hnb108 := NB324_317.out
           have hnc108 := NB317_324.out
           have hnb109 := NB324_325.out
           have hnc109 := NB325_324.out
           have hcz110_0 : wc.cell? ⟨gb324, 0, none⟩ = some (.int .i64 t320) := (blk_cell BK324.out 0).trans rfl
           have hcz110_1 : wc.cell? ⟨gb324, 1, none⟩ = some (.int .i64 t321) := (blk_cell BK324.out 1).trans rfl
           have hfz110_0 := blk_frozen BK324.out 0
           have hfz110_1 := blk_frozen BK324.out 1
           have hnb111 := NB325_316.out
           have hnc111 := NB316_325.out
           have hnb112 := NB325_317.out
           have hnc112 := NB317_325.out
           have hcz113_0 : wc.cell? ⟨gb325, 0, none⟩ = some (.int .i64 t322) := (blk_cell BK325.out 0).trans rfl
           have hcz113_1 : wc.cell? ⟨gb325, 1, none⟩ = some (.int .i64 t323) := (blk_cell BK325.out 1).trans rfl
           have hfz113_0 := blk_frozen BK325.out 0
           have hfz113_1 := blk_frozen BK325.out 1
           go_wp2_with (first | (go_at_call 22; (with_reducible refine (impl_RangeEmpty.calls t320 t321 false _ A96.out).mono ?_); rintro e w114 ⟨rfl, hb⟩; have n0_ := Aside0.mk (blk_below (g := gb316) (o := .cells #[.int .i64 a0_0, .int .i64 a0_1] 24 (0, 0)) (by (with_reducible repeat (first | refine blk_drewN ?_ _ | refine blk_drew ?_ | refine blk_alloc ?_ _)); exact BK316.out) hb); have n1_ := Aside0.mk (blk_below (g := gb317) (o := .cells #[.int .i64 a1_0, .int .i64 a1_1] 24 (0, 0)) (by (with_reducible repeat (first | refine blk_drewN ?_ _ | refine blk_drew ?_ | refine blk_alloc ?_ _)); exact BK317.out) hb); have n2_ := Aside0.mk (blk_below (g := gb324) (o := .cells #[.int .i64 t320, .int .i64 t321] 24 (0, 0)) (by (with_reducible repeat (first | refine blk_drewN ?_ _ | refine blk_drew ?_ | refine blk_alloc ?_ _)); exact BK324.out) hb); have n3_ := Aside0.mk (blk_below (g := gb325) (o := .cells #[.int .i64 t322, .int .i64 t323] 24 (0, 0)) (by (with_reducible repeat (first | refine blk_drewN ?_ _ | refine blk_drew ?_ | refine blk_alloc ?_ _)); exact BK325.out) hb); have n4_ := Aside0.mk (below_step (by repeat (first | (with_reducible first | exact HB.out | apply below_alloc | apply pw_below_drewN | apply below_drew1 | refine below_set ?_ GE316.out | refine below_set ?_ GE317.out | refine below_set ?_ GE324.out | refine below_set ?_ GE325.out) | exact HB.out)) hb); clear BK316; clear BK317; clear BK324; clear BK325; clear HB; have BK316 := n0_; have BK317 := n1_; have BK324 := n2_; have BK325 := n3_; have HB := n4_; clear n0_ n1_ n2_ n3_ n4_; (try clear hb); (try clear hb2); (try clear hk); (try clear hi); have hcz115_0 : w114.cell? ⟨gb324, 0, none⟩ = some (.int .i64 t320) := (blk_cell BK324.out 0).trans rfl; have hcz115_1 : w114.cell? ⟨gb324, 1, none⟩ = some (.int .i64 t321) := (blk_cell BK324.out 1).trans rfl; have hfz115_0 := blk_frozen BK324.out 0; have hfz115_1 := blk_frozen BK324.out 1) | (go_at_call 21; (with_reducible refine (impl_RangeEnd.calls t320 t321 t331 _ A106.out).mono ?_); rintro e w116 ⟨rfl, hb⟩; have n0_ := Aside0.mk (blk_below (g := gb316) (o := .cells #[.int .i64 a0_0, .int .i64 a0_1] 24 (0, 0)) (by (with_reducible repeat (first | refine blk_drewN ?_ _ | refine blk_drew ?_ | refine blk_alloc ?_ _)); exact BK316.out) hb); have n1_ := Aside0.mk (blk_below (g := gb317) (o := .cells #[.int .i64 a1_0, .int .i64 a1_1] 24 (0, 0)) (by (with_reducible repeat (first | refine blk_drewN ?_ _ | refine blk_drew ?_ | refine blk_alloc ?_ _)); exact BK317.out) hb); have n2_ := Aside0.mk (blk_below (g := gb324) (o := .cells #[.int .i64 t320, .int .i64 t321] 24 (0, 0)) (by (with_reducible repeat (first | refine blk_drewN ?_ _ | refine blk_drew ?_ | refine blk_alloc ?_ _)); exact BK324.out) hb); have n3_ := Aside0.mk (blk_below (g := gb325) (o := .cells #[.int .i64 t322, .int .i64 t323] 24 (0, 0)) (by (with_reducible repeat (first | refine blk_drewN ?_ _ | refine blk_drew ?_ | refine blk_alloc ?_ _)); exact BK325.out) hb); have n4_ := Aside0.mk (below_step (by repeat (first | (with_reducible first | exact HB.out | apply below_alloc | apply pw_below_drewN | apply below_drew1 | refine below_set ?_ GE316.out | refine below_set ?_ GE317.out | refine below_set ?_ GE324.out | refine below_set ?_ GE325.out) | exact HB.out)) hb); clear BK316; clear BK317; clear BK324; clear BK325; clear HB; have BK316 := n0_; have BK317 := n1_; have BK324 := n2_; have BK325 := n3_; have HB := n4_; clear n0_ n1_ n2_ n3_ n4_; (try clear hb); (try clear hb2); (try clear hk); (try clear hi)))
           go_ret
           exact ⟨by first | rfl | (simp [errW_none, errW_some] <;> rfl) | (simp only [← hji33, ← hji34]; first | rfl | (simp [errW_none, errW_some] <;> rfl)) | (simp [*, errW_none, errW_some] <;> rfl), by repeat (first | (with_reducible first | exact HB.out | apply below_alloc | apply pw_below_drewN | apply below_drew1 | refine below_set ?_ GE316.out | refine below_set ?_ GE317.out | refine below_set ?_ GE324.out | refine below_set ?_ GE325.out) | exact HB.out)⟩
         ·rw [if_neg c95] at H
          have c95b0 : (t320 == t322 && (t321 == t323)) = false := by simpa using c95
          (try (have c95b1 : decide (t320 = t322 && (t321 == t323)) = false := by simpa using c95))
          (try (have c95b2 : (t320 == t322 && (t321 == t323)) = false := by simpa using c95))
          (try (have c95b3 : ¬ (t320 = t322 && (t321 == t323)) := by simpa using c95))
          clear c95
          obtain rfl := Option.some.inj H
          have hnb117 := NB324_316.out
          have hnc117 := NB316_324.out
          have hnb118 := NB324_317.out
          have hnc118 := NB317_324.out
          have hnb119 := NB324_325.out
          have hnc119 := NB325_324.out
          have hcz120_0 : wc.cell? ⟨gb324, 0, none⟩ = some (.int .i64 t320) := (blk_cell BK324.out 0).trans rfl
          have hcz120_1 : wc.cell? ⟨gb324, 1, none⟩ = some (.int .i64 t321) := (blk_cell BK324.out 1).trans rfl
          have hfz120_0 := blk_frozen BK324.out 0
          have hfz120_1 := blk_frozen BK324.out 1
          have hnb121 := NB325_316.out
          have hnc121 := NB316_325.out
          have hnb122 := NB325_317.out
          have hnc122 := NB317_325.out
          have hcz123_0 : wc.cell? ⟨gb325, 0, none⟩ = some (.int .i64 t322) := (blk_cell BK325.out 0).trans rfl
          have hcz123_1 : wc.cell? ⟨gb325, 1, none⟩ = some (.int .i64 t323) := (blk_cell BK325.out 1).trans rfl
          have hfz123_0 := blk_frozen BK325.out 0
          have hfz123_1 := blk_frozen BK325.out 1
          go_wp2
          go_ret
          exact ⟨by first | rfl | (simp [errW_none, errW_some] <;> rfl) | (simp only [← hji33, ← hji34]; first | rfl | (simp [errW_none, errW_some] <;> rfl)) | (simp [*, errW_none, errW_some] <;> rfl), by repeat (first | (with_reducible first | exact HB.out | apply below_alloc | apply pw_below_drewN | apply below_drew1 | refine below_set ?_ GE316.out | refine below_set ?_ GE317.out | refine below_set ?_ GE324.out | refine below_set ?_ GE325.out) | exact HB.out)⟩
        ·rw [if_neg c94] at H
         have c94b0 : (t320 == ji33 && (t321 == (wrap64 (ji34 - ji33)))) = false := by simpa using c94
         (try (have c94b1 : decide (t320 = ji33 && (t321 == (wrap64 (ji34 - ji33)))) = false := by simpa using c94))
         (try (have c94b2 : (t320 == ji33 && (t321 == (wrap64 (ji34 - ji33)))) = false := by simpa using c94))
         (try (have c94b3 : ¬ (t320 = ji33 && (t321 == (wrap64 (ji34 - ji33)))) := by simpa using c94))
         clear c94
         obtain rfl := Option.some.inj H
         have hnb124 := NB324_316.out
         have hnc124 := NB316_324.out
         have hnb125 := NB324_317.out
         have hnc125 := NB317_324.out
         have hnb126 := NB324_325.out
         have hnc126 := NB325_324.out
         have hcz127_0 : wc.cell? ⟨gb324, 0, none⟩ = some (.int .i64 t320) := (blk_cell BK324.out 0).trans rfl
         have hcz127_1 : wc.cell? ⟨gb324, 1, none⟩ = some (.int .i64 t321) := (blk_cell BK324.out 1).trans rfl
         have hfz127_0 := blk_frozen BK324.out 0
         have hfz127_1 := blk_frozen BK324.out 1
         go_wp2
         go_ret
         exact ⟨by first | rfl | (simp [errW_none, errW_some] <;> rfl) | (simp only [← hji33, ← hji34]; first | rfl | (simp [errW_none, errW_some] <;> rfl)) | (simp [*, errW_none, errW_some] <;> rfl), by repeat (first | (with_reducible first | exact HB.out | apply below_alloc | apply pw_below_drewN | apply below_drew1 | refine below_set ?_ GE316.out | refine below_set ?_ GE317.out | refine below_set ?_ GE324.out | refine below_set ?_ GE325.out) | exact HB.out)⟩
def laws_FnRangeBoth.Pure : Prop := ∀ (a0_0 : Int) (a0_1 : Int) (a1_0 : Int) (a1_1 : Int), (((Lit.int .i64 a0_0).wf = true) ∧ ((Lit.int .i64 a0_1).wf = true)) → (((Lit.int .i64 a1_0).wf = true) ∧ ((Lit.int .i64 a1_1).wf = true)) → ∃ k, laws_FnRangeBoth.f k a0_0 a0_1 a1_0 a1_1 = some true
theorem laws_FnRangeBoth.walk (P : laws_FnRangeBoth.Pure) (w : World) (a0_0 : Int) (a0_1 : Int) (a1_0 : Int) (a1_1 : Int) (b0_0 : (((Lit.int .i64 a0_0).wf = true) ∧ ((Lit.int .i64 a0_1).wf = true))) (b1_0 : (((Lit.int .i64 a1_0).wf = true) ∧ ((Lit.int .i64 a1_1).wf = true))) :
  Calls Try.prog 5 #[.agg #[.int .i64 a0_0, .int .i64 a0_1], .agg #[.int .i64 a1_0, .int .i64 a1_1]] w fun e w' => e = .returned (.bool true) ∧ Below w.heap.size w w' := by
 obtain ⟨k, h⟩ := P a0_0 a0_1 a1_0 a1_1 b0_0 b1_0
 refine (laws_FnRangeBoth.calls k a0_0 a0_1 a1_0 a1_1 true w   h).mono ?_
 rintro e w' ⟨rfl, hd⟩
 exact ⟨rfl, hd⟩

end Go.Proofs.Ytmkhkkfliecfdaa.PT
