-- Written by a program of this session. -- slim
import Derived.Test.YtmkhkkfliecfdaaPTx20
import Derived.Test.YtmkhkkfliecfdaaGivenF
namespace Go.Proofs.Ytmkhkkfliecfdaa.PV
open Go.RowKit Go.Proofs.YtmkhkkfliecfdaaW.PrintWords Go.Proofs.YtmkhkkfliecfdaaW.PrintLast Go.Proofs.Ytmkhkkfliecfdaa.Given Go.Proofs.Ytmkhkkfliecfdaa.PT Go.Proofs.Ytmkhkkfliecfdaa.PU Go.Proofs.Ytmkhkkfliecfdaa.Mm
attribute [local go_sem] mx_go mn_go
set_option linter.unusedVariables false
set_option linter.unusedSimpArgs false

attribute [local go_sem high] idx70
attribute [local go_sem high] eqA24
/-! ### laws_FnRangesShift: function 4 -/
mutual
def laws_FnRangesShift.j0 : Nat → List (S24) → Bool → Int → Int → Int → Option (Bool)
 | 0, _, _, _, _, _ => none
 | k + 1, x0, x32, x136000, x136001, x137000 => if x32 = true then (some true) else ((laws_rangeAwake.f k).bind fun t139 => (if t139 = true then (laws_FnRangesShift.l0 k x0 ([] : List (S24)) x0 (x0.length : Int) 0 x136000 x136001 x137000) else (some false)))
def laws_FnRangesShift.l0 : Nat → List (S24) → List (S24) → List (S24) → Int → Int → Int → Int → Int → Option (Bool)
 | 0, _, _, _, _, _, _, _, _ => none
 | k + 1, x0, x8, x36, x37, x38, x136000, x136001, x137000 => if x38 < x37 then (if 0 ≤ x38 then (if x38 < (x36.length : Int) then ((rangesShift1.f ((rd_T24 x36 x38).f0) ((rd_T24 x36 x38).f1) x137000).bind fun bt142 => (if x8.length < 8796093022208 then (laws_FnRangesShift.l0 k x0 (x8 ++ [(⟨bt142.1, bt142.2⟩ : S24)]) x36 x37 (wrap64 (x38 + 1)) x136000 x136001 x137000) else (none))) else (none)) else (none)) else ((impl_RangesFindAll.f k x0 x136000 x136001).bind fun t147 => ((rangesShift1.f x136000 x136001 x137000).bind fun bt150 => ((impl_RangesFindAll.f k x8 bt150.1 bt150.2).bind fun t152 => (if (t147.length : Int) = (t152.length : Int) then ((impl_RangesSize.f k x0).bind fun t155 => ((impl_RangesSize.f k x8).bind fun t156 => (laws_FnRangesShift.j2 k t147 t152 (t155 != t156) x137000))) else (laws_FnRangesShift.j2 k t147 t152 true x137000)))))
def laws_FnRangesShift.j2 : Nat → List (S31) → List (S31) → Bool → Int → Option (Bool)
 | 0, _, _, _, _ => none
 | k + 1, x11, x12, x68, x137000 => if x68 = true then (some false) else (laws_FnRangesShift.l1 k x11 x12 (x11.length : Int) 0 x137000)
def laws_FnRangesShift.l1 : Nat → List (S31) → List (S31) → Int → Int → Int → Option (Bool)
 | 0, _, _, _, _, _ => none
 | k + 1, x11, x12, x70, x71, x137000 => if x71 < x70 then (if 0 ≤ x71 then (if x71 < (x11.length : Int) then ((rangesShift1.f ((rd_T31 x11 x71).f0.f0) ((rd_T31 x11 x71).f0.f1) x137000).bind fun bt158 => (if x71 < (x12.length : Int) then (if (!(bt158.1 == ((rd_T31 x12 x71).f0.f0)) || (!(bt158.2 == ((rd_T31 x12 x71).f0.f1)))) = true then (some false) else (if (((rd_T31 x11 x71).f1) != ((rd_T31 x12 x71).f1)) = true then (some false) else (laws_FnRangesShift.l1 k x11 x12 x70 (wrap64 (x71 + 1)) x137000))) else (none))) else (none)) else (none)) else (some true)
end
def laws_FnRangesShift.f (k : Nat) (l0 : List (S24)) (a1_0 : Int) (a1_1 : Int) (a2 : Int) : Option (Bool) := if (l0.length : Int) > 2147483647 then (some true) else ((spec_RangesIn.f k l0).bind fun t137 => (if t137 = true then ((spec_RangeAsk.f a1_0 a1_1).bind fun t138 => (if t138 = true then (if a2 < (-1099511627776) then (laws_FnRangesShift.j0 k l0 true a1_0 a1_1 a2) else (laws_FnRangesShift.j0 k l0 (decide (a2 > 1099511627776)) a1_0 a1_1 a2)) else (laws_FnRangesShift.j0 k l0 true a1_0 a1_1 a2))) else (laws_FnRangesShift.j0 k l0 true a1_0 a1_1 a2)))
theorem laws_FnRangesShift.mono_l : ∀ k, (∀ y0 y1 y2 y3 y4, LeO (laws_FnRangesShift.j0 k y0 y1 y2 y3 y4) (laws_FnRangesShift.j0 (k + 1) y0 y1 y2 y3 y4)) ∧ (∀ y0 y1 y2 y3 y4 y5 y6 y7, LeO (laws_FnRangesShift.l0 k y0 y1 y2 y3 y4 y5 y6 y7) (laws_FnRangesShift.l0 (k + 1) y0 y1 y2 y3 y4 y5 y6 y7)) ∧ (∀ y0 y1 y2 y3, LeO (laws_FnRangesShift.j2 k y0 y1 y2 y3) (laws_FnRangesShift.j2 (k + 1) y0 y1 y2 y3)) ∧ (∀ y0 y1 y2 y3 y4, LeO (laws_FnRangesShift.l1 k y0 y1 y2 y3 y4) (laws_FnRangesShift.l1 (k + 1) y0 y1 y2 y3 y4))
 | 0 => ⟨fun _ _ _ _ _ r h => by simp [laws_FnRangesShift.j0] at h, fun _ _ _ _ _ _ _ _ r h => by simp [laws_FnRangesShift.l0] at h, fun _ _ _ _ r h => by simp [laws_FnRangesShift.j2] at h, fun _ _ _ _ _ r h => by simp [laws_FnRangesShift.l1] at h⟩
 | k + 1 => by
  obtain ⟨ih0, ih1, ih2, ih3⟩ := laws_FnRangesShift.mono_l k
  refine ⟨?_, ?_, ?_, ?_⟩
  ·intro y0 y1 y2 y3 y4
   unfold laws_FnRangesShift.j0
   repeat' first
   | (with_reducible exact ih0 _ _ _ _ _)
   | (with_reducible exact ih1 _ _ _ _ _ _ _ _)
   | (with_reducible exact ih2 _ _ _ _)
   | (with_reducible exact ih3 _ _ _ _ _)
   | (with_reducible exact impl_RangesFindAll.mono _ _ _ _)
   | (with_reducible exact impl_RangesSize.mono _ _)
   | (with_reducible exact laws_rangeAwake.mono _)
   | (with_reducible exact spec_RangesIn.mono _ _)
   | (with_reducible exact LeO.refl _)
   | (with_reducible exact LeO.none _)
   | (with_reducible refine LeO.ite ?_ ?_)
   | (with_reducible refine LeO.bind ?_ (fun _ => ?_))
   | exact ih0 _ _ _ _ _
   | exact ih1 _ _ _ _ _ _ _ _
   | exact ih2 _ _ _ _
   | exact ih3 _ _ _ _ _
   | exact impl_RangesFindAll.mono _ _ _ _
   | exact impl_RangesSize.mono _ _
   | exact laws_rangeAwake.mono _
   | exact spec_RangesIn.mono _ _
   | exact LeO.none _
   | refine LeO.ite ?_ ?_
   | refine LeO.bind ?_ (fun _ => ?_)
  ·intro y0 y1 y2 y3 y4 y5 y6 y7
   unfold laws_FnRangesShift.l0
   repeat' first
   | (with_reducible exact ih0 _ _ _ _ _)
   | (with_reducible exact ih1 _ _ _ _ _ _ _ _)
   | (with_reducible exact ih2 _ _ _ _)
   | (with_reducible exact ih3 _ _ _ _ _)
   | (with_reducible exact impl_RangesFindAll.mono _ _ _ _)
   | (with_reducible exact impl_RangesSize.mono _ _)
   | (with_reducible exact laws_rangeAwake.mono _)
   | (with_reducible exact spec_RangesIn.mono _ _)
   | (with_reducible exact LeO.refl _)
   | (with_reducible exact LeO.none _)
   | (with_reducible refine LeO.ite ?_ ?_)
   | (with_reducible refine LeO.bind ?_ (fun _ => ?_))
   | exact ih0 _ _ _ _ _
   | exact ih1 _ _ _ _ _ _ _ _
   | exact ih2 _ _ _ _
   | exact ih3 _ _ _ _ _
   | exact impl_RangesFindAll.mono _ _ _ _
   | exact impl_RangesSize.mono _ _
   | exact laws_rangeAwake.mono _
   | exact spec_RangesIn.mono _ _
   | exact LeO.none _
   | refine LeO.ite ?_ ?_
   | refine LeO.bind ?_ (fun _ => ?_)
  ·intro y0 y1 y2 y3
   unfold laws_FnRangesShift.j2
   repeat' first
   | (with_reducible exact ih0 _ _ _ _ _)
   | (with_reducible exact ih1 _ _ _ _ _ _ _ _)
   | (with_reducible exact ih2 _ _ _ _)
   | (with_reducible exact ih3 _ _ _ _ _)
   | (with_reducible exact impl_RangesFindAll.mono _ _ _ _)
   | (with_reducible exact impl_RangesSize.mono _ _)
   | (with_reducible exact laws_rangeAwake.mono _)
   | (with_reducible exact spec_RangesIn.mono _ _)
   | (with_reducible exact LeO.refl _)
   | (with_reducible exact LeO.none _)
   | (with_reducible refine LeO.ite ?_ ?_)
   | (with_reducible refine LeO.bind ?_ (fun _ => ?_))
   | exact ih0 _ _ _ _ _
   | exact ih1 _ _ _ _ _ _ _ _
   | exact ih2 _ _ _ _
   | exact ih3 _ _ _ _ _
   | exact impl_RangesFindAll.mono _ _ _ _
   | exact impl_RangesSize.mono _ _
   | exact laws_rangeAwake.mono _
   | exact spec_RangesIn.mono _ _
   | exact LeO.none _
   | refine LeO.ite ?_ ?_
   | refine LeO.bind ?_ (fun _ => ?_)
  ·intro y0 y1 y2 y3 y4
   unfold laws_FnRangesShift.l1
   repeat' first
   | (with_reducible exact ih0 _ _ _ _ _)
   | (with_reducible exact ih1 _ _ _ _ _ _ _ _)
   | (with_reducible exact ih2 _ _ _ _)
   | (with_reducible exact ih3 _ _ _ _ _)
   | (with_reducible exact impl_RangesFindAll.mono _ _ _ _)
   | (with_reducible exact impl_RangesSize.mono _ _)
   | (with_reducible exact laws_rangeAwake.mono _)
   | (with_reducible exact spec_RangesIn.mono _ _)
   | (with_reducible exact LeO.refl _)
   | (with_reducible exact LeO.none _)
   | (with_reducible refine LeO.ite ?_ ?_)
   | (with_reducible refine LeO.bind ?_ (fun _ => ?_))
   | exact ih0 _ _ _ _ _
   | exact ih1 _ _ _ _ _ _ _ _
   | exact ih2 _ _ _ _
   | exact ih3 _ _ _ _ _
   | exact impl_RangesFindAll.mono _ _ _ _
   | exact impl_RangesSize.mono _ _
   | exact laws_rangeAwake.mono _
   | exact spec_RangesIn.mono _ _
   | exact LeO.none _
   | refine LeO.ite ?_ ?_
   | refine LeO.bind ?_ (fun _ => ?_)
theorem laws_FnRangesShift.mono : ∀ a0 a1 a2 a3 k, LeO (laws_FnRangesShift.f k a0 a1 a2 a3) (laws_FnRangesShift.f (k + 1) a0 a1 a2 a3) := by
 intro a0 a1 a2 a3 k
 obtain ⟨ih0, ih1, ih2, ih3⟩ := laws_FnRangesShift.mono_l k
 unfold laws_FnRangesShift.f
 repeat' first
   | (with_reducible exact ih0 _ _ _ _ _)
   | (with_reducible exact ih1 _ _ _ _ _ _ _ _)
   | (with_reducible exact ih2 _ _ _ _)
   | (with_reducible exact ih3 _ _ _ _ _)
   | (with_reducible exact impl_RangesFindAll.mono _ _ _ _)
   | (with_reducible exact impl_RangesSize.mono _ _)
   | (with_reducible exact laws_rangeAwake.mono _)
   | (with_reducible exact spec_RangesIn.mono _ _)
   | (with_reducible exact LeO.refl _)
   | (with_reducible exact LeO.none _)
   | (with_reducible refine LeO.ite ?_ ?_)
   | (with_reducible refine LeO.bind ?_ (fun _ => ?_))
   | exact ih0 _ _ _ _ _
   | exact ih1 _ _ _ _ _ _ _ _
   | exact ih2 _ _ _ _
   | exact ih3 _ _ _ _ _
   | exact impl_RangesFindAll.mono _ _ _ _
   | exact impl_RangesSize.mono _ _
   | exact laws_rangeAwake.mono _
   | exact spec_RangesIn.mono _ _
   | exact LeO.none _
   | refine LeO.ite ?_ ?_
   | refine LeO.bind ?_ (fun _ => ?_)
def laws_FnRangesShift.T14 : Bool × List (List Nat × List Nat) := (true, [([], []), ([], []), ([0, 1], [0, 1]), ([], []), ([], []), ([], []), ([4, 5, 2], [4, 5]), ([3, 6, 6], [3, 6]), ([2, 7, 0, 1, 2], [2]), ([7, 8, 0, 1, 2, 3, 4, 5, 6, 7, 8], [7])])
def laws_FnRangesShift.B14 : List Nat := [0, 0, 3, 0, 0, 0, 55, 127, 255, 511]
theorem laws_FnRangesShift.tab14 : rtab .any (opsOf Try.f4 14) = laws_FnRangesShift.T14 := by kernel_rfl
theorem laws_FnRangesShift.bits14 : waitsOk laws_FnRangesShift.T14.2 laws_FnRangesShift.B14 = true := by kernel_rfl
def laws_FnRangesShift.T20 : Bool × List (List Nat × List Nat) := (true, [([], []), ([], []), ([], []), ([1, 2], [1, 2]), ([3], [3]), ([4], [4]), ([0, 5], [0, 5]), ([], []), ([], []), ([7, 8], [7, 8]), ([9], [9]), ([10], [10]), ([6, 11], [6, 11]), ([12, 6], [12]), ([13], [13]), ([13], [13]), ([14, 15, 13], [13, 14, 15]), ([16, 13], [13, 16]), ([17, 13], [13, 17]), ([13], [13]), ([13], [13]), ([19, 20, 13], [13, 19, 20]), ([21, 13], [13, 21]), ([22, 13], [13, 22]), ([18, 23, 13], [13, 18, 23]), ([13, 24], [13, 24])])
def laws_FnRangesShift.B20 : List Nat := [0, 0, 0, 6, 14, 30, 63, 0, 0, 384, 896, 1920, 4095, 8191, 16383, 16383, 65535, 131071, 262143, 16383, 16383, 1589247, 3686399, 7880703, 16777215, 33554431]
theorem laws_FnRangesShift.tab20 : rtab .any (opsOf Try.f4 20) = laws_FnRangesShift.T20 := by kernel_rfl
theorem laws_FnRangesShift.bits20 : waitsOk laws_FnRangesShift.T20.2 laws_FnRangesShift.B20 = true := by kernel_rfl
set_option maxHeartbeats 8000000 in
set_option maxRecDepth 100000 in
theorem laws_FnRangesShift.calls (k : Nat) (A0 : Option Addr) (c0 : Nat) (l0 : List (S24)) (a1_0 : Int) (a1_1 : Int) (a2 : Int) (r : Bool) (w : World) (hr0 : Kd.C k24 w A0 l0.length l0) (hc0 : l0.length ≤ c0) (h : laws_FnRangesShift.f k l0 a1_0 a1_1 a2 = some r) :
  Calls Try.prog 4 #[.slice A0 l0.length c0, .agg #[.int .i64 a1_0, .int .i64 a1_1], .int .i64 a2] w fun e w' => e = .returned (.bool r) ∧ Below w.heap.size w w' := by
 have hu24 := Try.underlying24
 have HR0 := Aside0.mk hr0
 have HC0 := Aside0.mk hc0
 clear hr0 hc0
 have HB := Aside0.mk (Below.refl w.heap.size w)
 have H : (if (l0.length : Int) > 2147483647 then (some true) else ((spec_RangesIn.f k l0).bind fun t137 => (if t137 = true then ((spec_RangeAsk.f a1_0 a1_1).bind fun t138 => (if t138 = true then (if a2 < (-1099511627776) then (laws_FnRangesShift.j0 k l0 true a1_0 a1_1 a2) else (laws_FnRangesShift.j0 k l0 (decide (a2 > 1099511627776)) a1_0 a1_1 a2)) else (laws_FnRangesShift.j0 k l0 true a1_0 a1_1 a2))) else (laws_FnRangesShift.j0 k l0 true a1_0 a1_1 a2)))) = some r := h
 clear h
 by_cases c4 : (l0.length : Int) > 2147483647
 ·rw [if_pos c4] at H
  have c4b0 : decide (2147483647 < (l0.length : Int)) = true := decide_eq_true c4
  have c4b1 : decide (2147483647 < l0.length) = true := decide_eq_true (by omega)
  clear c4
  obtain rfl := Option.some.inj H
  go_enter Try.func4, Try.ntmps4
  go_wp2_with (first | ((with_reducible refine gate_dst (N := 4) rfl ?_); refine box_event ?hg (N := 4) ?hd (cs := #[.int .i64 a1_0, .int .i64 a1_1]) (t := 24) ?hr ?_; (case hd => rfl); (case hg => rfl); (case hr => first | (go_simp; done) | (go_simp; rfl)); intro gb135 hg w5 hbox hb; have n0_ := Aside0.mk (below_step (by repeat (first | (with_reducible first | exact HB.out | apply below_alloc | apply pw_below_drewN | apply below_drew1) | exact HB.out)) hb); have n1_ := Aside0.mk (hbox); have n2_ := Aside0.mk ((by rw [hg]; exact (below_size (by repeat (first | (with_reducible first | exact HB.out | apply below_alloc | apply pw_below_drewN | apply below_drew1) | exact HB.out))) : w.heap.size ≤ gb135)); have n3_ := Aside0.mk ((by rw [hg]; exact (below_size (by repeat (first | (with_reducible first | exact HB.out | apply below_alloc | apply pw_below_drewN | apply below_drew1) | exact HB.out))) : w.heap.size ≤ gb135)); clear HB; have HB := n0_; have BK135 := n1_; have GW135 := n2_; have GE135 := n3_; clear n0_ n1_ n2_ n3_; clear hb hbox hg) | ((with_reducible refine gate_dst (N := 5) rfl ?_); refine box_event ?hg (N := 5) ?hd (cs := #[.int .i64 a2]) (t := 3) ?hr ?_; (case hd => rfl); (case hg => rfl); (case hr => first | (go_simp; done) | (go_simp; rfl)); intro gb136 hg w6 hbox hb; have n0_ := Aside0.mk (blk_below (g := gb135) (o := .cells #[.int .i64 a1_0, .int .i64 a1_1] 24 (0, 0)) (by (with_reducible repeat (first | refine blk_drewN ?_ _ | refine blk_drew ?_ | refine blk_alloc ?_ _)); exact BK135.out) hb); have n1_ := Aside0.mk (below_step (by repeat (first | (with_reducible first | exact HB.out | apply below_alloc | apply pw_below_drewN | apply below_drew1 | refine below_set ?_ GE135.out) | exact HB.out)) hb); have n2_ := Aside0.mk (hbox); have n3_ := Aside0.mk ((by rw [hg]; exact (below_size (by repeat (first | (with_reducible first | exact HB.out | apply below_alloc | apply pw_below_drewN | apply below_drew1 | refine below_set ?_ GE135.out) | exact HB.out))) : w.heap.size ≤ gb136)); have n4_ := Aside0.mk ((by rw [hg]; exact (below_size (by repeat (first | (with_reducible first | exact HB.out | apply below_alloc | apply pw_below_drewN | apply below_drew1 | refine below_set ?_ GE135.out) | exact HB.out))) : w.heap.size ≤ gb136)); have n5_ := Aside0.mk ((by rw [hg]; exact Nat.ne_of_lt (blk_lt (g := gb135) (o := .cells #[.int .i64 a1_0, .int .i64 a1_1] 24 (0, 0)) (by (with_reducible repeat (first | refine blk_drewN ?_ _ | refine blk_drew ?_ | refine blk_alloc ?_ _)); exact BK135.out)) : gb135 ≠ gb136)); have n6_ := Aside0.mk ((by rw [hg]; exact Nat.ne_of_gt (blk_lt (g := gb135) (o := .cells #[.int .i64 a1_0, .int .i64 a1_1] 24 (0, 0)) (by (with_reducible repeat (first | refine blk_drewN ?_ _ | refine blk_drew ?_ | refine blk_alloc ?_ _)); exact BK135.out)) : gb136 ≠ gb135)); clear BK135; clear HB; have BK135 := n0_; have HB := n1_; have BK136 := n2_; have GW136 := n3_; have GE136 := n4_; have NB135_136 := n5_; have NB136_135 := n6_; clear n0_ n1_ n2_ n3_ n4_ n5_ n6_; clear hb hbox hg))
  go_ret
  exact ⟨by first | rfl | (simp [errW_none, errW_some] <;> rfl) | (simp [*, errW_none, errW_some] <;> rfl), by repeat (first | (with_reducible first | exact HB.out | apply below_alloc | apply pw_below_drewN | apply below_drew1 | refine below_set ?_ GE135.out | refine below_set ?_ GE136.out) | exact HB.out)⟩
 ·rw [if_neg c4] at H
  have c4b0 : decide (2147483647 < (l0.length : Int)) = false := decide_eq_false c4
  have c4b1 : decide (2147483647 < l0.length) = false := decide_eq_false (by omega)
  clear c4
  have HC7 := Aside0.mk H
  clear H
  go_enter Try.func4, Try.ntmps4
  go_upto_region 3 with (first | ((with_reducible refine gate_dst (N := 4) rfl ?_); refine box_event ?hg (N := 4) ?hd (cs := #[.int .i64 a1_0, .int .i64 a1_1]) (t := 24) ?hr ?_; (case hd => rfl); (case hg => rfl); (case hr => first | (go_simp; done) | (go_simp; rfl)); intro gb135 hg w8 hbox hb; have n0_ := Aside0.mk (below_step (by repeat (first | (with_reducible first | exact HB.out | apply below_alloc | apply pw_below_drewN | apply below_drew1) | exact HB.out)) hb); have n1_ := Aside0.mk (hbox); have n2_ := Aside0.mk ((by rw [hg]; exact (below_size (by repeat (first | (with_reducible first | exact HB.out | apply below_alloc | apply pw_below_drewN | apply below_drew1) | exact HB.out))) : w.heap.size ≤ gb135)); have n3_ := Aside0.mk ((by rw [hg]; exact (below_size (by repeat (first | (with_reducible first | exact HB.out | apply below_alloc | apply pw_below_drewN | apply below_drew1) | exact HB.out))) : w.heap.size ≤ gb135)); clear HB; have HB := n0_; have BK135 := n1_; have GW135 := n2_; have GE135 := n3_; clear n0_ n1_ n2_ n3_; clear hb hbox hg) | ((with_reducible refine gate_dst (N := 5) rfl ?_); refine box_event ?hg (N := 5) ?hd (cs := #[.int .i64 a2]) (t := 3) ?hr ?_; (case hd => rfl); (case hg => rfl); (case hr => first | (go_simp; done) | (go_simp; rfl)); intro gb136 hg w9 hbox hb; have n0_ := Aside0.mk (blk_below (g := gb135) (o := .cells #[.int .i64 a1_0, .int .i64 a1_1] 24 (0, 0)) (by (with_reducible repeat (first | refine blk_drewN ?_ _ | refine blk_drew ?_ | refine blk_alloc ?_ _)); exact BK135.out) hb); have n1_ := Aside0.mk (below_step (by repeat (first | (with_reducible first | exact HB.out | apply below_alloc | apply pw_below_drewN | apply below_drew1 | refine below_set ?_ GE135.out) | exact HB.out)) hb); have n2_ := Aside0.mk (hbox); have n3_ := Aside0.mk ((by rw [hg]; exact (below_size (by repeat (first | (with_reducible first | exact HB.out | apply below_alloc | apply pw_below_drewN | apply below_drew1 | refine below_set ?_ GE135.out) | exact HB.out))) : w.heap.size ≤ gb136)); have n4_ := Aside0.mk ((by rw [hg]; exact (below_size (by repeat (first | (with_reducible first | exact HB.out | apply below_alloc | apply pw_below_drewN | apply below_drew1 | refine below_set ?_ GE135.out) | exact HB.out))) : w.heap.size ≤ gb136)); have n5_ := Aside0.mk ((by rw [hg]; exact Nat.ne_of_lt (blk_lt (g := gb135) (o := .cells #[.int .i64 a1_0, .int .i64 a1_1] 24 (0, 0)) (by (with_reducible repeat (first | refine blk_drewN ?_ _ | refine blk_drew ?_ | refine blk_alloc ?_ _)); exact BK135.out)) : gb135 ≠ gb136)); have n6_ := Aside0.mk ((by rw [hg]; exact Nat.ne_of_gt (blk_lt (g := gb135) (o := .cells #[.int .i64 a1_0, .int .i64 a1_1] 24 (0, 0)) (by (with_reducible repeat (first | refine blk_drewN ?_ _ | refine blk_drew ?_ | refine blk_alloc ?_ _)); exact BK135.out)) : gb136 ≠ gb135)); clear BK135; clear HB; have BK135 := n0_; have HB := n1_; have BK136 := n2_; have GW136 := n3_; have GE136 := n4_; have NB135_136 := n5_; have NB136_135 := n6_; clear n0_ n1_ n2_ n3_ n4_ n5_ n6_; clear hb hbox hg))
  (try simp only [Act.put, List.setIfInBounds_toArray, List.set_cons_zero, List.set_cons_succ])
  go_cut [32] (fun v32 wc => ∃ (kq : Nat) (x32_6 : Bool), v32 = .bool x32_6 ∧ Aside0 (laws_FnRangesShift.j0 kq l0 x32_6 a1_0 a1_1 a2 = some r) ∧ Aside0 (kq ≤ k) ∧ Aside0 (wc.heap[gb135]? = some (.cells #[.int .i64 a1_0, .int .i64 a1_1] 24 (0, 0))) ∧ Aside0 (wc.heap[gb136]? = some (.cells #[.int .i64 a2] 3 (0, 0))) ∧ Aside0 (Below w.heap.size w wc))
  case first =>
   have H := HC7.out
   clear HC7
   replace H := Option.bind_eq_some_iff.mp H
   obtain ⟨t137, A100, H⟩ := H
   replace H : (if t137 = true then ((spec_RangeAsk.f a1_0 a1_1).bind fun t138 => (if t138 = true then (if a2 < (-1099511627776) then (laws_FnRangesShift.j0 k l0 true a1_0 a1_1 a2) else (laws_FnRangesShift.j0 k l0 (decide (a2 > 1099511627776)) a1_0 a1_1 a2)) else (laws_FnRangesShift.j0 k l0 true a1_0 a1_1 a2))) else (laws_FnRangesShift.j0 k l0 true a1_0 a1_1 a2)) = some r := H
   have A10 := Aside0.mk A100
   clear A100
   by_cases c11 : t137 = true
   ·subst c11
    have H1 : ((spec_RangeAsk.f a1_0 a1_1).bind fun t138 => (if t138 = true then (if a2 < (-1099511627776) then (laws_FnRangesShift.j0 k l0 true a1_0 a1_1 a2) else (laws_FnRangesShift.j0 k l0 (decide (a2 > 1099511627776)) a1_0 a1_1 a2)) else (laws_FnRangesShift.j0 k l0 true a1_0 a1_1 a2))) = some r := by rw [if_pos rfl] at H; exact H
    clear H
    have H := H1
    clear H1
    replace H := Option.bind_eq_some_iff.mp H
    obtain ⟨t138, A120, H⟩ := H
    replace H : (if t138 = true then (if a2 < (-1099511627776) then (laws_FnRangesShift.j0 k l0 true a1_0 a1_1 a2) else (laws_FnRangesShift.j0 k l0 (decide (a2 > 1099511627776)) a1_0 a1_1 a2)) else (laws_FnRangesShift.j0 k l0 true a1_0 a1_1 a2)) = some r := H
    have A12 := Aside0.mk A120
    clear A120
    by_cases c13 : t138 = true
    ·subst c13
     have H1 : (if a2 < (-1099511627776) then (laws_FnRangesShift.j0 k l0 true a1_0 a1_1 a2) else (laws_FnRangesShift.j0 k l0 (decide (a2 > 1099511627776)) a1_0 a1_1 a2)) = some r := by rw [if_pos rfl] at H; exact H
     clear H
     have H := H1
     clear H1
     by_cases c14 : a2 < (-1099511627776)
     ·rw [if_pos c14] at H
      have c14b0 : decide (a2 < (-1099511627776)) = true := decide_eq_true c14
      clear c14
      (first | rw [c14b0] | (simp only [i64_w, i32_w]; rw [c14b0]) | skip)
      have H' := Aside0.mk H
      clear H
      go_wp2_with (first | ((with_reducible refine gate_dst (N := 18) rfl ?_); refine goesL_ (some 18) rfl rfl Try.func11 (by kernel_rfl) rfl #[.slice A0 l0.length c0] rfl (by (try simp only [List.map_toArray, List.map_cons, List.map_nil]); first | done | rfl | (simp only [List.length_drop, List.length_take]; rfl)) ?_; (with_reducible refine (spec_RangesIn.calls k _ _ l0 true _ ?side1 ?side2 A10.out).mono ?_); (case side1 => repeat (first | exact (Kd.C_below HR0.out HB.out) | (with_reducible refine Kd.C_alloc ?_ _) | (with_reducible refine Kd.C_drewN ?_ _) | (with_reducible refine Kd.C_drew ?_))); (case side2 => exact HC0.out); rintro e w15 ⟨rfl, hb⟩; refine ⟨_, rfl, ?_⟩; have n0_ := Aside0.mk (blk_below (g := gb135) (o := .cells #[.int .i64 a1_0, .int .i64 a1_1] 24 (0, 0)) (by (with_reducible repeat (first | refine blk_drewN ?_ _ | refine blk_drew ?_ | refine blk_alloc ?_ _)); exact BK135.out) hb); have n1_ := Aside0.mk (blk_below (g := gb136) (o := .cells #[.int .i64 a2] 3 (0, 0)) (by (with_reducible repeat (first | refine blk_drewN ?_ _ | refine blk_drew ?_ | refine blk_alloc ?_ _)); exact BK136.out) hb); have n2_ := Aside0.mk (below_step (by repeat (first | (with_reducible first | exact HB.out | apply below_alloc | apply pw_below_drewN | apply below_drew1 | refine below_set ?_ GE135.out | refine below_set ?_ GE136.out) | exact HB.out)) hb); clear BK135; clear BK136; clear HB; have BK135 := n0_; have BK136 := n1_; have HB := n2_; clear n0_ n1_ n2_; (try clear hb); (try clear hb2); (try clear hk); (try clear hi); have hnb16 := NB135_136.out; have hnc16 := NB136_135.out; have hcz17_0 : w15.cell? ⟨gb135, 0, none⟩ = some (.int .i64 a1_0) := (blk_cell BK135.out 0).trans rfl; have hcz17_1 : w15.cell? ⟨gb135, 1, none⟩ = some (.int .i64 a1_1) := (blk_cell BK135.out 1).trans rfl; have hfz17_0 := blk_frozen BK135.out 0; have hfz17_1 := blk_frozen BK135.out 1) | (go_at_call 12; (with_reducible refine (spec_RangeAsk.calls a1_0 a1_1 true _ A12.out).mono ?_); rintro e w18 ⟨rfl, hb⟩; have n0_ := Aside0.mk (blk_below (g := gb135) (o := .cells #[.int .i64 a1_0, .int .i64 a1_1] 24 (0, 0)) (by (with_reducible repeat (first | refine blk_drewN ?_ _ | refine blk_drew ?_ | refine blk_alloc ?_ _)); exact BK135.out) hb); have n1_ := Aside0.mk (blk_below (g := gb136) (o := .cells #[.int .i64 a2] 3 (0, 0)) (by (with_reducible repeat (first | refine blk_drewN ?_ _ | refine blk_drew ?_ | refine blk_alloc ?_ _)); exact BK136.out) hb); have n2_ := Aside0.mk (below_step (by repeat (first | (with_reducible first | exact HB.out | apply below_alloc | apply pw_below_drewN | apply below_drew1 | refine below_set ?_ GE135.out | refine below_set ?_ GE136.out) | exact HB.out)) hb); clear BK135; clear BK136; clear HB; have BK135 := n0_; have BK136 := n1_; have HB := n2_; clear n0_ n1_ n2_; (try clear hb); (try clear hb2); (try clear hk); (try clear hi); have hcz19_0 : w18.cell? ⟨gb136, 0, none⟩ = some (.int .i64 a2) := (blk_cell BK136.out 0).trans rfl; have hfz19_0 := blk_frozen BK136.out 0))
      go_meet
      case rel => exact ⟨_, (true), (by first | rfl | (simp; done) | (simp [*]; done)), H', ⟨by first | omega | exact Nat.le_refl _⟩, ⟨by (with_reducible repeat (first | refine blk_drewN ?_ _ | refine blk_drew ?_ | refine blk_alloc ?_ _)); exact BK135.out⟩, ⟨by (with_reducible repeat (first | refine blk_drewN ?_ _ | refine blk_drew ?_ | refine blk_alloc ?_ _)); exact BK136.out⟩, ⟨by repeat (first | (with_reducible first | exact HB.out | apply below_alloc | apply pw_below_drewN | apply below_drew1 | refine below_set ?_ GE135.out | refine below_set ?_ GE136.out) | exact HB.out)⟩⟩
     ·rw [if_neg c14] at H
      have c14b0 : decide (a2 < (-1099511627776)) = false := decide_eq_false c14
      clear c14
      (first | rw [c14b0] | (simp only [i64_w, i32_w]; rw [c14b0]) | skip)
      have H' := Aside0.mk H
      clear H
      go_wp2_with (first | ((with_reducible refine gate_dst (N := 18) rfl ?_); refine goesL_ (some 18) rfl rfl Try.func11 (by kernel_rfl) rfl #[.slice A0 l0.length c0] rfl (by (try simp only [List.map_toArray, List.map_cons, List.map_nil]); first | done | rfl | (simp only [List.length_drop, List.length_take]; rfl)) ?_; (with_reducible refine (spec_RangesIn.calls k _ _ l0 true _ ?side1 ?side2 A10.out).mono ?_); (case side1 => repeat (first | exact (Kd.C_below HR0.out HB.out) | (with_reducible refine Kd.C_alloc ?_ _) | (with_reducible refine Kd.C_drewN ?_ _) | (with_reducible refine Kd.C_drew ?_))); (case side2 => exact HC0.out); rintro e w20 ⟨rfl, hb⟩; refine ⟨_, rfl, ?_⟩; have n0_ := Aside0.mk (blk_below (g := gb135) (o := .cells #[.int .i64 a1_0, .int .i64 a1_1] 24 (0, 0)) (by (with_reducible repeat (first | refine blk_drewN ?_ _ | refine blk_drew ?_ | refine blk_alloc ?_ _)); exact BK135.out) hb); have n1_ := Aside0.mk (blk_below (g := gb136) (o := .cells #[.int .i64 a2] 3 (0, 0)) (by (with_reducible repeat (first | refine blk_drewN ?_ _ | refine blk_drew ?_ | refine blk_alloc ?_ _)); exact BK136.out) hb); have n2_ := Aside0.mk (below_step (by repeat (first | (with_reducible first | exact HB.out | apply below_alloc | apply pw_below_drewN | apply below_drew1 | refine below_set ?_ GE135.out | refine below_set ?_ GE136.out) | exact HB.out)) hb); clear BK135; clear BK136; clear HB; have BK135 := n0_; have BK136 := n1_; have HB := n2_; clear n0_ n1_ n2_; (try clear hb); (try clear hb2); (try clear hk); (try clear hi); have hnb21 := NB135_136.out; have hnc21 := NB136_135.out; have hcz22_0 : w20.cell? ⟨gb135, 0, none⟩ = some (.int .i64 a1_0) := (blk_cell BK135.out 0).trans rfl; have hcz22_1 : w20.cell? ⟨gb135, 1, none⟩ = some (.int .i64 a1_1) := (blk_cell BK135.out 1).trans rfl; have hfz22_0 := blk_frozen BK135.out 0; have hfz22_1 := blk_frozen BK135.out 1) | (go_at_call 12; (with_reducible refine (spec_RangeAsk.calls a1_0 a1_1 true _ A12.out).mono ?_); rintro e w23 ⟨rfl, hb⟩; have n0_ := Aside0.mk (blk_below (g := gb135) (o := .cells #[.int .i64 a1_0, .int .i64 a1_1] 24 (0, 0)) (by (with_reducible repeat (first | refine blk_drewN ?_ _ | refine blk_drew ?_ | refine blk_alloc ?_ _)); exact BK135.out) hb); have n1_ := Aside0.mk (blk_below (g := gb136) (o := .cells #[.int .i64 a2] 3 (0, 0)) (by (with_reducible repeat (first | refine blk_drewN ?_ _ | refine blk_drew ?_ | refine blk_alloc ?_ _)); exact BK136.out) hb); have n2_ := Aside0.mk (below_step (by repeat (first | (with_reducible first | exact HB.out | apply below_alloc | apply pw_below_drewN | apply below_drew1 | refine below_set ?_ GE135.out | refine below_set ?_ GE136.out) | exact HB.out)) hb); clear BK135; clear BK136; clear HB; have BK135 := n0_; have BK136 := n1_; have HB := n2_; clear n0_ n1_ n2_; (try clear hb); (try clear hb2); (try clear hk); (try clear hi); have hcz24_0 : w23.cell? ⟨gb136, 0, none⟩ = some (.int .i64 a2) := (blk_cell BK136.out 0).trans rfl; have hfz24_0 := blk_frozen BK136.out 0))
      go_meet
      case rel => exact ⟨_, (decide (a2 > 1099511627776)), (by first | rfl | (simp; done) | (simp [*]; done)), H', ⟨by first | omega | exact Nat.le_refl _⟩, ⟨by (with_reducible repeat (first | refine blk_drewN ?_ _ | refine blk_drew ?_ | refine blk_alloc ?_ _)); exact BK135.out⟩, ⟨by (with_reducible repeat (first | refine blk_drewN ?_ _ | refine blk_drew ?_ | refine blk_alloc ?_ _)); exact BK136.out⟩, ⟨by repeat (first | (with_reducible first | exact HB.out | apply below_alloc | apply pw_below_drewN | apply below_drew1 | refine below_set ?_ GE135.out | refine below_set ?_ GE136.out) | exact HB.out)⟩⟩
    ·replace c13 := Bool.eq_false_iff.mpr c13
     subst c13
     have H1 : (laws_FnRangesShift.j0 k l0 true a1_0 a1_1 a2) = some r := by rw [if_neg (show ¬ (false = true) by decide)] at H; exact H
     clear H
     have H := H1
     clear H1
     have H' := Aside0.mk H
     clear H
     go_wp2_with (first | ((with_reducible refine gate_dst (N := 18) rfl ?_); refine goesL_ (some 18) rfl rfl Try.func11 (by kernel_rfl) rfl #[.slice A0 l0.length c0] rfl (by (try simp only [List.map_toArray, List.map_cons, List.map_nil]); first | done | rfl | (simp only [List.length_drop, List.length_take]; rfl)) ?_; (with_reducible refine (spec_RangesIn.calls k _ _ l0 true _ ?side1 ?side2 A10.out).mono ?_); (case side1 => repeat (first | exact (Kd.C_below HR0.out HB.out) | (with_reducible refine Kd.C_alloc ?_ _) | (with_reducible refine Kd.C_drewN ?_ _) | (with_reducible refine Kd.C_drew ?_))); (case side2 => exact HC0.out); rintro e w25 ⟨rfl, hb⟩; refine ⟨_, rfl, ?_⟩; have n0_ := Aside0.mk (blk_below (g := gb135) (o := .cells #[.int .i64 a1_0, .int .i64 a1_1] 24 (0, 0)) (by (with_reducible repeat (first | refine blk_drewN ?_ _ | refine blk_drew ?_ | refine blk_alloc ?_ _)); exact BK135.out) hb); have n1_ := Aside0.mk (blk_below (g := gb136) (o := .cells #[.int .i64 a2] 3 (0, 0)) (by (with_reducible repeat (first | refine blk_drewN ?_ _ | refine blk_drew ?_ | refine blk_alloc ?_ _)); exact BK136.out) hb); have n2_ := Aside0.mk (below_step (by repeat (first | (with_reducible first | exact HB.out | apply below_alloc | apply pw_below_drewN | apply below_drew1 | refine below_set ?_ GE135.out | refine below_set ?_ GE136.out) | exact HB.out)) hb); clear BK135; clear BK136; clear HB; have BK135 := n0_; have BK136 := n1_; have HB := n2_; clear n0_ n1_ n2_; (try clear hb); (try clear hb2); (try clear hk); (try clear hi); have hnb26 := NB135_136.out; have hnc26 := NB136_135.out; have hcz27_0 : w25.cell? ⟨gb135, 0, none⟩ = some (.int .i64 a1_0) := (blk_cell BK135.out 0).trans rfl; have hcz27_1 : w25.cell? ⟨gb135, 1, none⟩ = some (.int .i64 a1_1) := (blk_cell BK135.out 1).trans rfl; have hfz27_0 := blk_frozen BK135.out 0; have hfz27_1 := blk_frozen BK135.out 1) | (go_at_call 12; (with_reducible refine (spec_RangeAsk.calls a1_0 a1_1 false _ A12.out).mono ?_); rintro e w28 ⟨rfl, hb⟩; have n0_ := Aside0.mk (blk_below (g := gb135) (o := .cells #[.int .i64 a1_0, .int .i64 a1_1] 24 (0, 0)) (by (with_reducible repeat (first | refine blk_drewN ?_ _ | refine blk_drew ?_ | refine blk_alloc ?_ _)); exact BK135.out) hb); have n1_ := Aside0.mk (blk_below (g := gb136) (o := .cells #[.int .i64 a2] 3 (0, 0)) (by (with_reducible repeat (first | refine blk_drewN ?_ _ | refine blk_drew ?_ | refine blk_alloc ?_ _)); exact BK136.out) hb); have n2_ := Aside0.mk (below_step (by repeat (first | (with_reducible first | exact HB.out | apply below_alloc | apply pw_below_drewN | apply below_drew1 | refine below_set ?_ GE135.out | refine below_set ?_ GE136.out) | exact HB.out)) hb); clear BK135; clear BK136; clear HB; have BK135 := n0_; have BK136 := n1_; have HB := n2_; clear n0_ n1_ n2_; (try clear hb); (try clear hb2); (try clear hk); (try clear hi)))
     go_meet
     case rel => exact ⟨_, (true), (by first | rfl | (simp; done) | (simp [*]; done)), H', ⟨by first | omega | exact Nat.le_refl _⟩, ⟨by (with_reducible repeat (first | refine blk_drewN ?_ _ | refine blk_drew ?_ | refine blk_alloc ?_ _)); exact BK135.out⟩, ⟨by (with_reducible repeat (first | refine blk_drewN ?_ _ | refine blk_drew ?_ | refine blk_alloc ?_ _)); exact BK136.out⟩, ⟨by repeat (first | (with_reducible first | exact HB.out | apply below_alloc | apply pw_below_drewN | apply below_drew1 | refine below_set ?_ GE135.out | refine below_set ?_ GE136.out) | exact HB.out)⟩⟩
   ·replace c11 := Bool.eq_false_iff.mpr c11
    subst c11
    have H1 : (laws_FnRangesShift.j0 k l0 true a1_0 a1_1 a2) = some r := by rw [if_neg (show ¬ (false = true) by decide)] at H; exact H
    clear H
    have H := H1
    clear H1
    have H' := Aside0.mk H
    clear H
    go_wp2_with (first | ((with_reducible refine gate_dst (N := 18) rfl ?_); refine goesL_ (some 18) rfl rfl Try.func11 (by kernel_rfl) rfl #[.slice A0 l0.length c0] rfl (by (try simp only [List.map_toArray, List.map_cons, List.map_nil]); first | done | rfl | (simp only [List.length_drop, List.length_take]; rfl)) ?_; (with_reducible refine (spec_RangesIn.calls k _ _ l0 false _ ?side1 ?side2 A10.out).mono ?_); (case side1 => repeat (first | exact (Kd.C_below HR0.out HB.out) | (with_reducible refine Kd.C_alloc ?_ _) | (with_reducible refine Kd.C_drewN ?_ _) | (with_reducible refine Kd.C_drew ?_))); (case side2 => exact HC0.out); rintro e w29 ⟨rfl, hb⟩; refine ⟨_, rfl, ?_⟩; have n0_ := Aside0.mk (blk_below (g := gb135) (o := .cells #[.int .i64 a1_0, .int .i64 a1_1] 24 (0, 0)) (by (with_reducible repeat (first | refine blk_drewN ?_ _ | refine blk_drew ?_ | refine blk_alloc ?_ _)); exact BK135.out) hb); have n1_ := Aside0.mk (blk_below (g := gb136) (o := .cells #[.int .i64 a2] 3 (0, 0)) (by (with_reducible repeat (first | refine blk_drewN ?_ _ | refine blk_drew ?_ | refine blk_alloc ?_ _)); exact BK136.out) hb); have n2_ := Aside0.mk (below_step (by repeat (first | (with_reducible first | exact HB.out | apply below_alloc | apply pw_below_drewN | apply below_drew1 | refine below_set ?_ GE135.out | refine below_set ?_ GE136.out) | exact HB.out)) hb); clear BK135; clear BK136; clear HB; have BK135 := n0_; have BK136 := n1_; have HB := n2_; clear n0_ n1_ n2_; (try clear hb); (try clear hb2); (try clear hk); (try clear hi)))
    go_meet
    case rel => exact ⟨_, (true), (by first | rfl | (simp; done) | (simp [*]; done)), H', ⟨by first | omega | exact Nat.le_refl _⟩, ⟨by (with_reducible repeat (first | refine blk_drewN ?_ _ | refine blk_drew ?_ | refine blk_alloc ?_ _)); exact BK135.out⟩, ⟨by (with_reducible repeat (first | refine blk_drewN ?_ _ | refine blk_drew ?_ | refine blk_alloc ?_ _)); exact BK136.out⟩, ⟨by repeat (first | (with_reducible first | exact HB.out | apply below_alloc | apply pw_below_drewN | apply below_drew1 | refine below_set ?_ GE135.out | refine below_set ?_ GE136.out) | exact HB.out)⟩⟩
  case rest =>
   clear HC7
   try clear c1
   try clear c2
   try clear p2
   try clear c4
   try clear c4b0
   try clear c4b1
   try clear c11
   try clear c13
   try clear c14
   try clear c14b0
   try clear c16
   try clear c21
   try clear c26
   try clear hcz17_0
   try clear hcz17_1
   try clear hcz19_0
   try clear hcz22_0
   try clear hcz22_1
   try clear hcz24_0
   try clear hcz27_0
   try clear hcz27_1
   try clear hfz17_0
   try clear hfz17_1
   try clear hfz19_0
   try clear hfz22_0
   try clear hfz22_1
   try clear hfz24_0
   try clear hfz27_0
   try clear hfz27_1
   obtain ⟨kq, x32_6, rfl, HA, HJ6, BK135, BK136, HB⟩ := hcut
   cases kq with
   | zero => exact absurd HA.out (by simp [laws_FnRangesShift.j0])
   | succ kj6 =>
    have H := HA.out
    clear HA
    simp only [laws_FnRangesShift.j0] at H
    by_cases c30 : x32_6 = true
    ·subst c30
     have H1 : (some true) = some r := by rw [if_pos rfl] at H; exact H
     clear H
     have H := H1
     clear H1
     obtain rfl := Option.some.inj H
     go_wp2
     go_ret
     exact ⟨by first | rfl | (simp [errW_none, errW_some] <;> rfl) | (simp [*, errW_none, errW_some] <;> rfl), by repeat (first | (with_reducible first | exact HB.out | apply below_alloc | apply pw_below_drewN | apply below_drew1 | refine below_set ?_ GE135.out | refine below_set ?_ GE136.out) | exact HB.out)⟩
    ·replace c30 := Bool.eq_false_iff.mpr c30
     subst c30
     have H1 : ((laws_rangeAwake.f kj6).bind fun t139 => (if t139 = true then (laws_FnRangesShift.l0 kj6 l0 ([] : List (S24)) l0 (l0.length : Int) 0 a1_0 a1_1 a2) else (some false))) = some r := by rw [if_neg (show ¬ (false = true) by decide)] at H; exact H
     clear H
     have H := H1
     clear H1
     replace H := Option.bind_eq_some_iff.mp H
     obtain ⟨t139, A310, H⟩ := H
     replace H : (if t139 = true then (laws_FnRangesShift.l0 kj6 l0 ([] : List (S24)) l0 (l0.length : Int) 0 a1_0 a1_1 a2) else (some false)) = some r := H
     have A31 := Aside0.mk A310
     clear A310
     by_cases c32 : t139 = true
     ·subst c32
      have H1 : (laws_FnRangesShift.l0 kj6 l0 ([] : List (S24)) l0 (l0.length : Int) 0 a1_0 a1_1 a2) = some r := by rw [if_pos rfl] at H; exact H
      clear H
      have H := H1
      clear H1
      have H' := Aside0.mk H
      clear H
      go_wp2_with (first | ((with_reducible refine gate_dst (N := 33) rfl ?_); refine goesL_ (some 33) rfl rfl Try.func13 (by kernel_rfl) rfl #[] rfl (by (try simp only [List.map_toArray, List.map_cons, List.map_nil]); first | done | rfl | (simp only [List.length_drop, List.length_take]; rfl)) ?_; (with_reducible refine (laws_rangeAwake.calls kj6  true _ A31.out).mono ?_); rintro e w33 ⟨rfl, hb⟩; refine ⟨_, rfl, ?_⟩; have n0_ := Aside0.mk (blk_below (g := gb135) (o := .cells #[.int .i64 a1_0, .int .i64 a1_1] 24 (0, 0)) (by (with_reducible repeat (first | refine blk_drewN ?_ _ | refine blk_drew ?_ | refine blk_alloc ?_ _)); exact BK135.out) hb); have n1_ := Aside0.mk (blk_below (g := gb136) (o := .cells #[.int .i64 a2] 3 (0, 0)) (by (with_reducible repeat (first | refine blk_drewN ?_ _ | refine blk_drew ?_ | refine blk_alloc ?_ _)); exact BK136.out) hb); have n2_ := Aside0.mk (below_step (by repeat (first | (with_reducible first | exact HB.out | apply below_alloc | apply pw_below_drewN | apply below_drew1 | refine below_set ?_ GE135.out | refine below_set ?_ GE136.out) | exact HB.out)) hb); clear BK135; clear BK136; clear HB; have BK135 := n0_; have BK136 := n1_; have HB := n2_; clear n0_ n1_ n2_; (try clear hb); (try clear hb2); (try clear hk); (try clear hi)))
      go_loopg [8, 38] kj6 (fun kq v8 v38 w' => ∃ (x8_2 : List (S24)) (x38_2 : Int), v38 = .int .i64 x38_2 ∧ Aside0 (laws_FnRangesShift.l0 kq l0 x8_2 l0 (l0.length : Int) x38_2 a1_0 a1_1 a2 = some r) ∧ Aside0 (kq ≤ kj6) ∧ Aside0 (Kd.R k24 24 w' w.heap.size (fun k_ => k_ ≠ gb135) v8 x8_2) ∧ Aside0 (w'.heap[gb135]? = some (.cells #[.int .i64 a1_0, .int .i64 a1_1] 24 (0, 0))) ∧ Aside0 (w'.heap[gb136]? = some (.cells #[.int .i64 a2] 3 (0, 0))) ∧ Aside0 (Below w.heap.size w w'))
      case atStart => exact ⟨(([] : List (S24))), (0), (by first | rfl | (simp; done) | (simp [*]; done)), H', ⟨Nat.le_refl _⟩, ⟨by first | exact Kd.R_nil _ _ _ _ _ | exact Kd.N_nil _ _ _ _ _ | exact Kd.V_nil _ _ _ _ _ | exact Kd.Q_nil _ _ _ _ _ | exact Kd.S_nil _ _ _ _ _⟩, ⟨by (with_reducible repeat (first | refine blk_drewN ?_ _ | refine blk_drew ?_ | refine blk_alloc ?_ _)); exact BK135.out⟩, ⟨by (with_reducible repeat (first | refine blk_drewN ?_ _ | refine blk_drew ?_ | refine blk_alloc ?_ _)); exact BK136.out⟩, ⟨by repeat (first | (with_reducible first | exact HB.out | apply below_alloc | apply pw_below_drewN | apply below_drew1 | refine below_set ?_ GE135.out | refine below_set ?_ GE136.out) | exact HB.out)⟩⟩
      case round =>
       clear H'
       try clear c1
       try clear c2
       try clear p2
       try clear c3
       try clear c4
       try clear c4b0
       try clear c4b1
       try clear c11
       try clear c13
       try clear c14
       try clear c14b0
       try clear c16
       try clear c21
       try clear c26
       try clear c30
       try clear c32
       try clear hcz17_0
       try clear hcz17_1
       try clear hcz19_0
       try clear hcz22_0
       try clear hcz22_1
       try clear hcz24_0
       try clear hcz27_0
       try clear hcz27_1
       try clear hfz17_0
       try clear hfz17_1
       try clear hfz19_0
       try clear hfz22_0
       try clear hfz22_1
       try clear hfz24_0
       try clear hfz27_0
       try clear hfz27_1
       try clear p2
       obtain ⟨x8_2, x38_2, rfl, HA, HK2, HO_8, BK135, BK136, HB⟩ := hrel
       cases gk with
       | zero => exact absurd HA.out (by simp [laws_FnRangesShift.l0])
       | succ k2 =>
        have H := HA.out
        clear HA
        simp only [laws_FnRangesShift.l0] at H
        by_cases c34 : x38_2 < (l0.length : Int)
        ·rw [if_pos c34] at H
         have c34b0 : decide (x38_2 < (l0.length : Int)) = true := decide_eq_true c34
         clear c34
         by_cases c35 : 0 ≤ x38_2
         ·rw [if_pos c35] at H
          have c35b0 : decide (0 ≤ x38_2) = true := decide_eq_true c35
          clear c35
          by_cases c36 : x38_2 < (l0.length : Int)
          ·rw [if_pos c36] at H
           have c36b0 : decide (x38_2 < (l0.length : Int)) = true := decide_eq_true c36
           clear c36
           replace H := Option.bind_eq_some_iff.mp H
           obtain ⟨⟨t142, t143⟩, A370, H⟩ := H
           replace H : (if x8_2.length < 8796093022208 then (laws_FnRangesShift.l0 k2 l0 (x8_2 ++ [(⟨t142, t143⟩ : S24)]) l0 (l0.length : Int) (wrap64 (x38_2 + 1)) a1_0 a1_1 a2) else (none)) = some r := H
           have A37 := Aside0.mk A370
           clear A370
           by_cases c38 : x8_2.length < 8796093022208
           ·rw [if_pos c38] at H
            have LMc38 := Aside0.mk c38
            clear c38
            obtain ⟨y144, hy144⟩ : ∃ y_ : List (S24), y_ = (x8_2 ++ [(⟨t142, t143⟩ : S24)]) := ⟨_, rfl⟩
            replace H : (laws_FnRangesShift.l0 k2 l0 y144 l0 (l0.length : Int) (wrap64 (x38_2 + 1)) a1_0 a1_1 a2) = some r := by first | (rw [hy144]; with_reducible exact H) | (have H2_ := (Option.bind_some _ _).symm.trans H; rw [hy144]; with_reducible exact H2_) | (have H2_ := (Option.bind_some _ _).symm.trans H; with_reducible exact H2_) | with_reducible exact H | (rw [hy144]; exact H) | exact H
            have Ny144 := Aside0.mk hy144
            clear hy144
            have H' := Aside0.mk H
            clear H
            have p140 : 0 ≤ (x38_2 : Int) := of_decide_eq_true (by first | (with_reducible assumption) | assumption)
            have q140 : x38_2 < (l0.length : Int) := of_decide_eq_true (by first | (with_reducible assumption) | assumption)
            obtain ⟨ad140, e140, hx140_0, hx140_1⟩ := at_T24 HR0.out x38_2 p140 q140
            cases e140
            replace hx140_0 := (HB.out.cell (World.block_lt_of_cell? w _ hx140_0)).trans hx140_0
            replace hx140_1 := (HB.out.cell (World.block_lt_of_cell? w _ hx140_1)).trans hx140_1
            replace p140 := eq_true p140
            replace q140 := eq_true q140
            go_wp2_with (first | ((with_reducible refine gate_dst (N := 10) rfl ?_); refine box_event ?hg (N := 10) ?hd (cs := #[.int .i64 0, .int .i64 0]) (t := 24) ?hr ?_; (case hd => rfl); (case hg => rfl); (case hr => first | (go_simp; done) | (go_simp; rfl)); intro gb141 hg w39 hbox hb; have n0_ := Aside0.mk (Kd.R_below (Kd.R_elderB (by (with_reducible repeat (first | apply Kd.R_alloc | apply Kd.R_drewN | apply Kd.R_drew)); exact HO_8.out) gb141 (Nat.le_of_eq hg.symm)) hb); have n1_ := Aside0.mk (blk_below (g := gb135) (o := .cells #[.int .i64 a1_0, .int .i64 a1_1] 24 (0, 0)) (by (with_reducible repeat (first | refine blk_drewN ?_ _ | refine blk_drew ?_ | refine blk_alloc ?_ _)); exact BK135.out) hb); have n2_ := Aside0.mk (blk_below (g := gb136) (o := .cells #[.int .i64 a2] 3 (0, 0)) (by (with_reducible repeat (first | refine blk_drewN ?_ _ | refine blk_drew ?_ | refine blk_alloc ?_ _)); exact BK136.out) hb); have n3_ := Aside0.mk (below_step (by repeat (first | (with_reducible first | exact HB.out | apply below_alloc | apply pw_below_drewN | apply below_drew1 | refine below_set ?_ GE135.out | refine below_set ?_ GE136.out) | exact HB.out)) hb); have n4_ := Aside0.mk (hbox); have n5_ := Aside0.mk ((by rw [hg]; exact (below_size (by repeat (first | (with_reducible first | exact HB.out | apply below_alloc | apply pw_below_drewN | apply below_drew1 | refine below_set ?_ GE135.out | refine below_set ?_ GE136.out) | exact HB.out))) : w.heap.size ≤ gb141)); have n6_ := Aside0.mk ((by rw [hg]; exact (below_size (by repeat (first | (with_reducible first | exact HB.out | apply below_alloc | apply pw_below_drewN | apply below_drew1 | refine below_set ?_ GE135.out | refine below_set ?_ GE136.out) | exact HB.out))) : w.heap.size ≤ gb141)); have n7_ := Aside0.mk ((by rw [hg]; exact Nat.ne_of_lt (blk_lt (g := gb135) (o := .cells #[.int .i64 a1_0, .int .i64 a1_1] 24 (0, 0)) (by (with_reducible repeat (first | refine blk_drewN ?_ _ | refine blk_drew ?_ | refine blk_alloc ?_ _)); exact BK135.out)) : gb135 ≠ gb141)); have n8_ := Aside0.mk ((by rw [hg]; exact Nat.ne_of_gt (blk_lt (g := gb135) (o := .cells #[.int .i64 a1_0, .int .i64 a1_1] 24 (0, 0)) (by (with_reducible repeat (first | refine blk_drewN ?_ _ | refine blk_drew ?_ | refine blk_alloc ?_ _)); exact BK135.out)) : gb141 ≠ gb135)); have n9_ := Aside0.mk ((by rw [hg]; exact Nat.ne_of_lt (blk_lt (g := gb136) (o := .cells #[.int .i64 a2] 3 (0, 0)) (by (with_reducible repeat (first | refine blk_drewN ?_ _ | refine blk_drew ?_ | refine blk_alloc ?_ _)); exact BK136.out)) : gb136 ≠ gb141)); have n10_ := Aside0.mk ((by rw [hg]; exact Nat.ne_of_gt (blk_lt (g := gb136) (o := .cells #[.int .i64 a2] 3 (0, 0)) (by (with_reducible repeat (first | refine blk_drewN ?_ _ | refine blk_drew ?_ | refine blk_alloc ?_ _)); exact BK136.out)) : gb141 ≠ gb136)); clear HO_8; clear BK135; clear BK136; clear HB; have HO_8 := n0_; have BK135 := n1_; have BK136 := n2_; have HB := n3_; have BK141 := n4_; have GW141 := n5_; have GE141 := n6_; have NB135_141 := n7_; have NB141_135 := n8_; have NB136_141 := n9_; have NB141_136 := n10_; clear n0_ n1_ n2_ n3_ n4_ n5_ n6_ n7_ n8_ n9_ n10_; clear hb hbox hg; have hnb40 := NB141_135.out; have hnc40 := NB135_141.out; have hnb41 := NB141_136.out; have hnc41 := NB136_141.out; have hcz42_0 : w39.cell? ⟨gb141, 0, none⟩ = some (.int .i64 0) := (blk_cell BK141.out 0).trans rfl; have hcz42_1 : w39.cell? ⟨gb141, 1, none⟩ = some (.int .i64 0) := (blk_cell BK141.out 1).trans rfl; have hfz42_0 := blk_frozen BK141.out 0; have hfz42_1 := blk_frozen BK141.out 1) | ((with_reducible refine gate_dst (N := 45) rfl ?_); refine goesDL_ (some 45) rfl rfl Try.func16 (by kernel_rfl) rfl #[.agg #[.int .i64 ((rd_T24 l0 x38_2).f0), .int .i64 ((rd_T24 l0 x38_2).f1)], .pointer (some ⟨gb136, 0, none⟩)] rfl rfl (by (try simp only [List.map_toArray, List.map_cons, List.map_nil]); first | done | rfl | (simp only [List.length_drop, List.length_take]; rfl)) ?_; (with_reducible refine (rangesShift1.calls gb136 ((rd_T24 l0 x38_2).f0) ((rd_T24 l0 x38_2).f1) a2 t142 t143 _ ((blk_cell (g := gb136) (t := 3) (cs := #[.int .i64 a2]) (by (with_reducible repeat (first | refine blk_drewN ?_ _ | refine blk_drew ?_ | refine blk_alloc ?_ _)); refine blk_far ?_ NB136_141.out _; (with_reducible repeat (first | refine blk_drewN ?_ _ | refine blk_drew ?_ | refine blk_alloc ?_ _)); refine blk_far ?_ NB136_141.out _; (with_reducible repeat (first | refine blk_drewN ?_ _ | refine blk_drew ?_ | refine blk_alloc ?_ _)); exact BK136.out) 0).trans rfl) A37.out).mono ?_); rintro e w43 ⟨rfl, hb⟩; refine ⟨_, rfl, ?_⟩; have n0_ := Aside0.mk (Kd.R_below (by (with_reducible repeat (first | apply Kd.R_alloc | apply Kd.R_drewN | apply Kd.R_drew)); exact (Kd.R_mono (Kd.R_far (p := ⟨gb141, 1, none⟩) (Kd.R_far (p := ⟨gb141, 0, none⟩) (Kd.R_mono HO_8.out (fun k_ hk => (⟨hk, hk.2⟩ : _ ∧ k_ ≠ gb141))) (fun _ hk => hk.2) (.int .i64 ((rd_T24 l0 x38_2).f0))) (fun _ hk => hk.2) (.int .i64 ((rd_T24 l0 x38_2).f1))) (fun _ h_ => h_.1))) hb); have n1_ := Aside0.mk (blk_below (g := gb135) (o := .cells #[.int .i64 a1_0, .int .i64 a1_1] 24 (0, 0)) (by (with_reducible repeat (first | refine blk_drewN ?_ _ | refine blk_drew ?_ | refine blk_alloc ?_ _)); refine blk_far ?_ NB135_141.out _; (with_reducible repeat (first | refine blk_drewN ?_ _ | refine blk_drew ?_ | refine blk_alloc ?_ _)); refine blk_far ?_ NB135_141.out _; (with_reducible repeat (first | refine blk_drewN ?_ _ | refine blk_drew ?_ | refine blk_alloc ?_ _)); exact BK135.out) hb); have n2_ := Aside0.mk (blk_below (g := gb136) (o := .cells #[.int .i64 a2] 3 (0, 0)) (by (with_reducible repeat (first | refine blk_drewN ?_ _ | refine blk_drew ?_ | refine blk_alloc ?_ _)); refine blk_far ?_ NB136_141.out _; (with_reducible repeat (first | refine blk_drewN ?_ _ | refine blk_drew ?_ | refine blk_alloc ?_ _)); refine blk_far ?_ NB136_141.out _; (with_reducible repeat (first | refine blk_drewN ?_ _ | refine blk_drew ?_ | refine blk_alloc ?_ _)); exact BK136.out) hb); have n3_ := Aside0.mk (blk_below (g := gb141) (o := .cells #[.int .i64 ((rd_T24 l0 x38_2).f0), .int .i64 ((rd_T24 l0 x38_2).f1)] 24 (0, 0)) (by (with_reducible repeat (first | refine blk_drewN ?_ _ | refine blk_drew ?_ | refine blk_alloc ?_ _)); refine blk_put (cs := #[.int .i64 ((rd_T24 l0 x38_2).f0), .int .i64 0]) ?_ 1 _ rfl; (with_reducible repeat (first | refine blk_drewN ?_ _ | refine blk_drew ?_ | refine blk_alloc ?_ _)); refine blk_put (cs := #[.int .i64 0, .int .i64 0]) ?_ 0 _ rfl; (with_reducible repeat (first | refine blk_drewN ?_ _ | refine blk_drew ?_ | refine blk_alloc ?_ _)); exact BK141.out) hb); have n4_ := Aside0.mk (below_step (by repeat (first | (with_reducible first | exact HB.out | apply below_alloc | apply pw_below_drewN | apply below_drew1 | refine below_set ?_ GE135.out | refine below_set ?_ GE136.out | refine below_set ?_ GE141.out) | exact HB.out)) hb); clear HO_8; clear BK135; clear BK136; clear BK141; clear HB; have HO_8 := n0_; have BK135 := n1_; have BK136 := n2_; have BK141 := n3_; have HB := n4_; clear n0_ n1_ n2_ n3_ n4_; (try clear hb); (try clear hb2); (try clear hk); (try clear hi)) | (at_builtin; refine Kd.R_append k24 (w0 := w) w.heap.size rfl (.tmp 42) (.tmp 46) 22 24 (.agg #[(.int .i64 0), (.int .i64 0)]) 16 rfl Try.underlying22 info24 rfl (by decide) (by omega) u8 x8_2 (⟨t142, t143⟩ : S24) [.int .i64 t142, .int .i64 t143] (fun k_ => k_ ≠ gb135 ∧ k_ ≠ gb141) (fun _ => False) rfl rfl ?aP (fun _ hk => hk.elim) ?aF ?aO ?aB ?aS ?aL ?_; (case aP => exact k24_mkM _ _ _ (⟨t142, t143⟩ : S24)); (case aB => exact (by repeat (first | (with_reducible first | exact HB.out | apply below_alloc | apply pw_below_drewN | apply below_drew1 | refine below_set ?_ GE135.out | refine below_set ?_ GE136.out | refine below_set ?_ GE141.out) | exact HB.out))); (case aF => exact (fun k_ hk => ⟨Kd.freshB (g := gb135) (o := .cells #[.int .i64 a1_0, .int .i64 a1_1] 24 (0, 0)) (by (with_reducible repeat (first | refine blk_drewN ?_ _ | refine blk_drew ?_ | refine blk_alloc ?_ _)); exact BK135.out) k_ hk, Kd.freshB (g := gb141) (o := .cells #[.int .i64 ((rd_T24 l0 x38_2).f0), .int .i64 ((rd_T24 l0 x38_2).f1)] 24 (0, 0)) (by (with_reducible repeat (first | refine blk_drewN ?_ _ | refine blk_drew ?_ | refine blk_alloc ?_ _)); exact BK141.out) k_ hk⟩)); (case aO => exact (by (with_reducible repeat (first | apply Kd.R_alloc | apply Kd.R_drewN | apply Kd.R_drew)); exact HO_8.out)); (case aS => exact (below_size (by repeat (first | (with_reducible first | exact HB.out | apply below_alloc | apply pw_below_drewN | apply below_drew1 | refine below_set ?_ GE135.out | refine below_set ?_ GE136.out | refine below_set ?_ GE141.out) | exact HB.out)))); (case aL => have := LMc38.out; omega); intro v145 w44 ho hb hg hat; rw [← Ny144.out] at ho; have n0_ := Aside0.mk (blk_grown (g := gb135) (o := .cells #[.int .i64 a1_0, .int .i64 a1_1] 24 (0, 0)) (by (with_reducible repeat (first | refine blk_drewN ?_ _ | refine blk_drew ?_ | refine blk_alloc ?_ _)); exact BK135.out) hg (Kd.R_away HO_8.out (fun _ hk => hk.1))); have n1_ := Aside0.mk (blk_grown (g := gb136) (o := .cells #[.int .i64 a2] 3 (0, 0)) (by (with_reducible repeat (first | refine blk_drewN ?_ _ | refine blk_drew ?_ | refine blk_alloc ?_ _)); exact BK136.out) hg (Kd.R_ne HO_8.out BK136.out (by decide))); have n2_ := Aside0.mk (blk_grown (g := gb141) (o := .cells #[.int .i64 ((rd_T24 l0 x38_2).f0), .int .i64 ((rd_T24 l0 x38_2).f1)] 24 (0, 0)) (by (with_reducible repeat (first | refine blk_drewN ?_ _ | refine blk_drew ?_ | refine blk_alloc ?_ _)); exact BK141.out) hg (Kd.R_away HO_8.out (fun _ hk => hk.2))); have n3_ := Aside0.mk (hb); have n4_ := Aside0.mk (ho); clear BK135; clear BK136; clear BK141; clear HB; clear HO_8; have BK135 := n0_; have BK136 := n1_; have BK141 := n2_; have HB := n3_; have HO146 := n4_; clear n0_ n1_ n2_ n3_ n4_; clear ho hb hg hat))
            go_roundg k2
            case measure => have := HJ6.out; have := HK2.out; omega
            case rel => exact ⟨(y144), (wrap64 (x38_2 + 1)), (by first | rfl | (simp; done) | (simp [*]; done)), H', ⟨by have := HJ6.out; have := HK2.out; omega⟩, ⟨by (with_reducible repeat (first | apply Kd.R_alloc | apply Kd.R_drewN | apply Kd.R_drew)); exact Kd.R_mono HO146.out (fun _ hk => hk.1)⟩, ⟨by (with_reducible repeat (first | refine blk_drewN ?_ _ | refine blk_drew ?_ | refine blk_alloc ?_ _)); exact BK135.out⟩, ⟨by (with_reducible repeat (first | refine blk_drewN ?_ _ | refine blk_drew ?_ | refine blk_alloc ?_ _)); exact BK136.out⟩, ⟨by repeat (first | (with_reducible first | exact HB.out | apply below_alloc | apply pw_below_drewN | apply below_drew1 | refine below_set ?_ GE135.out | refine below_set ?_ GE136.out | refine below_set ?_ GE141.out) | exact HB.out)⟩⟩
           ·rw [if_neg c38] at H
            exact absurd H (by simp)
          ·rw [if_neg c36] at H
           exact absurd H (by simp)
         ·rw [if_neg c35] at H
          exact absurd H (by simp)
        ·rw [if_neg c34] at H
         have c34b0 : decide (x38_2 < (l0.length : Int)) = false := decide_eq_false c34
         clear c34
         replace H := Option.bind_eq_some_iff.mp H
         obtain ⟨t147, A450, H⟩ := H
         replace H : ((rangesShift1.f a1_0 a1_1 a2).bind fun bt150 => ((impl_RangesFindAll.f k2 x8_2 bt150.1 bt150.2).bind fun t152 => (if (t147.length : Int) = (t152.length : Int) then ((impl_RangesSize.f k2 l0).bind fun t155 => ((impl_RangesSize.f k2 x8_2).bind fun t156 => (laws_FnRangesShift.j2 k2 t147 t152 (t155 != t156) a2))) else (laws_FnRangesShift.j2 k2 t147 t152 true a2)))) = some r := H
         have A45 := Aside0.mk A450
         clear A450
         replace H := Option.bind_eq_some_iff.mp H
         obtain ⟨⟨t150, t151⟩, A460, H⟩ := H
         replace H : ((impl_RangesFindAll.f k2 x8_2 t150 t151).bind fun t152 => (if (t147.length : Int) = (t152.length : Int) then ((impl_RangesSize.f k2 l0).bind fun t155 => ((impl_RangesSize.f k2 x8_2).bind fun t156 => (laws_FnRangesShift.j2 k2 t147 t152 (t155 != t156) a2))) else (laws_FnRangesShift.j2 k2 t147 t152 true a2))) = some r := H
         have A46 := Aside0.mk A460
         clear A460
         replace H := Option.bind_eq_some_iff.mp H
         obtain ⟨t152, A470, H⟩ := H
         replace H : (if (t147.length : Int) = (t152.length : Int) then ((impl_RangesSize.f k2 l0).bind fun t155 => ((impl_RangesSize.f k2 x8_2).bind fun t156 => (laws_FnRangesShift.j2 k2 t147 t152 (t155 != t156) a2))) else (laws_FnRangesShift.j2 k2 t147 t152 true a2)) = some r := H
         have A47 := Aside0.mk A470
         clear A470
         have HC48 := Aside0.mk H
         clear H
         try go_wp2
         have n0_ := Aside0.mk (Kd.R_drew HO_8.out)
         have n1_ := Aside0.mk (blk_drew BK135.out)
         have n2_ := Aside0.mk (blk_drew BK136.out)
         have n3_ := Aside0.mk (below_drew1 HB.out)
         clear HO_8
         clear BK135
         clear BK136
         clear HB
         have HO_8 := n0_
         have BK135 := n1_
         have BK136 := n2_
         have HB := n3_
         clear n0_ n1_ n2_ n3_
         refine start_ (n := 10) (S := fun w' => w'.cell? ⟨gb135, 0, none⟩ = some (.int .i64 a1_0) ∧ w'.cell? ⟨gb135, 1, none⟩ = some (.int .i64 a1_1)) (ds := []) #[false, false, false, false, false, false, false, false, false, false] (by kernel_rfl) rfl rfl ⟨(blk_cell BK135.out 0).trans rfl, (blk_cell BK135.out 1).trans rfl⟩ (fun hHeld => ?_); refine with_tabW laws_FnRangesShift.tab14 laws_FnRangesShift.bits14 (fun HT_ HW_ => ?_)
         generalize wr.drew = w49 at HO_8 BK135 BK136 HB hHeld ⊢
         refine pure_ (i := 0) (N := some 49) (v := ?_) (a' := ?_) #[true, false, false, false, false, false, false, false, false, false] rfl rfl (any_of HT_.out (by kernel_rfl)) (fun _ _ _ h => h) (Or.inl ⟨by rfl, ?_⟩) ?_ ?_
         rotate_left
         ·intro w'
          go_simp
          with_reducible rfl
         rotate_left
         ·simp only [Act.put, List.setIfInBounds_toArray, List.set_cons_zero, List.set_cons_succ, i64_w, i32_w]
          rfl
         refine pure_ (i := 3) (N := some 52) (v := ?_) (a' := ?_) #[true, false, false, true, false, false, false, false, false, false] rfl rfl (any_of HT_.out (by kernel_rfl)) (fun _ _ _ h => h) (Or.inl ⟨by rfl, ?_⟩) ?_ ?_
         rotate_left
         ·intro w'
          go_simp
          with_reducible rfl
         rotate_left
         ·simp only [Act.put, List.setIfInBounds_toArray, List.set_cons_zero, List.set_cons_succ, i64_w, i32_w]
          rfl
         refine pure_ (i := 4) (N := some 53) (v := ?_) (a' := ?_) #[true, false, false, true, true, false, false, false, false, false] rfl rfl (any_of HT_.out (by kernel_rfl)) (fun _ _ _ h => h) (Or.inl ⟨by rfl, ?_⟩) ?_ ?_
         rotate_left
         ·intro w'
          go_simp
          with_reducible rfl
         rotate_left
         ·simp only [Act.put, List.setIfInBounds_toArray, List.set_cons_zero, List.set_cons_succ, i64_w, i32_w]
          rfl
         refine take_ (i := 1) (N := some 50) (v := ?_) (a' := ?_) #[true, true, false, true, true, false, false, false, false, false] rfl rfl (take_ofW HT_.out HW_.out (by kernel_rfl)) (fun _ _ _ h => h) (Or.inl ⟨by rfl, ?_⟩) hHeld ?_ ?_
         rotate_left
         ·rintro w' ⟨s0, s1⟩
          go_simp
          with_reducible rfl
         rotate_left
         ·simp only [Act.put, List.setIfInBounds_toArray, List.set_cons_zero, List.set_cons_succ, i64_w, i32_w]
          rfl
         refine take_ (i := 5) (N := some 54) (v := ?_) (a' := ?_) #[true, true, false, true, true, true, false, false, false, false] rfl rfl (take_ofW HT_.out HW_.out (by kernel_rfl)) (fun _ _ _ h => h) (Or.inl ⟨by rfl, ?_⟩) hHeld ?_ ?_
         rotate_left
         ·rintro w' ⟨s0, s1⟩
          go_simp
          with_reducible rfl
         rotate_left
         ·simp only [Act.put, List.setIfInBounds_toArray, List.set_cons_zero, List.set_cons_succ, i64_w, i32_w]
          rfl
         refine one_ (i := 2) (N := some 51) #[true, true, true, true, true, true, false, false, false, false] rfl rfl (one_of HT_.out (by kernel_rfl)) (by decide) (fun K hK => ?_)
         refine goes_ Try.func17 (by kernel_rfl) rfl #[.slice A0 l0.length c0, .agg #[.int .i64 a1_0, .int .i64 a1_1]] (by rfl) rfl rfl (by (try simp only [List.map_toArray, List.map_cons, List.map_nil]); first | done | rfl | (simp only [List.length_drop, List.length_take]; rfl)) ?_
         with_reducible refine (impl_RangesFindAll.calls k2 _ _ l0 a1_0 a1_1 t147 _ ?side1 ?side2 A45.out).mono ?_
         (case side1 => repeat (first | exact (Kd.C_below HR0.out HB.out) | (with_reducible refine Kd.C_alloc ?_ _) | (with_reducible refine Kd.C_drewN ?_ _) | (with_reducible refine Kd.C_drew ?_)))
         (case side2 => exact HC0.out)
         rintro e w50 ⟨v148, rfl, ho0, hb⟩
         refine ⟨_, rfl, ?_⟩
         have n0_ := Aside0.mk (Kd.R_below (by (with_reducible repeat (first | apply Kd.R_alloc | apply Kd.R_drewN | apply Kd.R_drew)); exact HO_8.out) hb)
         have n1_ := Aside0.mk (Kd.R_lower ho0 (below_size (by repeat (first | (with_reducible first | exact HB.out | apply below_alloc | apply pw_below_drewN | apply below_drew1 | refine below_set ?_ GE135.out | refine below_set ?_ GE136.out) | exact HB.out))))
         have n2_ := Aside0.mk (blk_below (g := gb135) (o := .cells #[.int .i64 a1_0, .int .i64 a1_1] 24 (0, 0)) (by (with_reducible repeat (first | refine blk_drewN ?_ _ | refine blk_drew ?_ | refine blk_alloc ?_ _)); exact BK135.out) hb)
         have n3_ := Aside0.mk (blk_below (g := gb136) (o := .cells #[.int .i64 a2] 3 (0, 0)) (by (with_reducible repeat (first | refine blk_drewN ?_ _ | refine blk_drew ?_ | refine blk_alloc ?_ _)); exact BK136.out) hb)
         have n4_ := Aside0.mk (below_step (by repeat (first | (with_reducible first | exact HB.out | apply below_alloc | apply pw_below_drewN | apply below_drew1 | refine below_set ?_ GE135.out | refine below_set ?_ GE136.out) | exact HB.out)) hb)
         clear HO_8
         clear BK135
         clear BK136
         clear HB
         have HO_8 := n0_
         have HO149 := n1_
         have BK135 := n2_
         have BK136 := n3_
         have HB := n4_
         clear n0_ n1_ n2_ n3_ n4_
         (try clear hb)
         (try clear hb2)
         (try clear hk)
         (try clear hi)
         (try clear ho0)
         refine hK.out _ _ ⟨(blk_cell BK135.out 0).trans rfl, (blk_cell BK135.out 1).trans rfl⟩ (fun hHeld => ?_)
         clear hK K
         refine norm_ (a' := ?_) ?_ ?_
         rotate_left
         ·show Act.put _ (some 51) _ = _
          simp only [Act.put, List.setIfInBounds_toArray, List.set_cons_zero, List.set_cons_succ, i64_w, i32_w]
          rfl
         refine one_ (i := 6) (N := some 55) #[true, true, true, true, true, true, true, false, false, false] rfl rfl (one_of HT_.out (by kernel_rfl)) (by decide) (fun K hK => ?_)
         refine goesD_ Try.func16 (by kernel_rfl) rfl #[.agg #[.int .i64 a1_0, .int .i64 a1_1], .pointer (some ⟨gb136, 0, none⟩)] (by rfl) rfl rfl rfl (by (try simp only [List.map_toArray, List.map_cons, List.map_nil]); first | done | rfl | (simp only [List.length_drop, List.length_take]; rfl)) ?_
         with_reducible refine (rangesShift1.calls gb136 a1_0 a1_1 a2 t150 t151 _ ((blk_cell (g := gb136) (t := 3) (cs := #[.int .i64 a2]) (by (with_reducible repeat (first | refine blk_drewN ?_ _ | refine blk_drew ?_ | refine blk_alloc ?_ _)); exact BK136.out) 0).trans rfl) A46.out).mono ?_
         rintro e w51 ⟨rfl, hb⟩
         refine ⟨_, rfl, ?_⟩
         have n0_ := Aside0.mk (Kd.R_below (by (with_reducible repeat (first | apply Kd.R_alloc | apply Kd.R_drewN | apply Kd.R_drew)); exact HO_8.out) hb)
         have n1_ := Aside0.mk (Kd.R_below (by (with_reducible repeat (first | apply Kd.R_alloc | apply Kd.R_drewN | apply Kd.R_drew)); exact HO149.out) hb)
         have n2_ := Aside0.mk (blk_below (g := gb135) (o := .cells #[.int .i64 a1_0, .int .i64 a1_1] 24 (0, 0)) (by (with_reducible repeat (first | refine blk_drewN ?_ _ | refine blk_drew ?_ | refine blk_alloc ?_ _)); exact BK135.out) hb)
         have n3_ := Aside0.mk (blk_below (g := gb136) (o := .cells #[.int .i64 a2] 3 (0, 0)) (by (with_reducible repeat (first | refine blk_drewN ?_ _ | refine blk_drew ?_ | refine blk_alloc ?_ _)); exact BK136.out) hb)
         have n4_ := Aside0.mk (below_step (by repeat (first | (with_reducible first | exact HB.out | apply below_alloc | apply pw_below_drewN | apply below_drew1 | refine below_set ?_ GE135.out | refine below_set ?_ GE136.out) | exact HB.out)) hb)
         clear HO_8
         clear HO149
         clear BK135
         clear BK136
         clear HB
         have HO_8 := n0_
         have HO149 := n1_
         have BK135 := n2_
         have BK136 := n3_
         have HB := n4_
         clear n0_ n1_ n2_ n3_ n4_
         (try clear hb)
         (try clear hb2)
         (try clear hk)
         (try clear hi)
         obtain ⟨Ao52, co52, eo52⟩ := Kd.R_slice HO_8.out
         (first | subst eo52 | (injection eo52 with f1_ f2_ f3_; have f4_ := f1_.symm; have f5_ := f3_.symm; clear f1_ f2_ f3_; subst f4_; subst f5_))
         refine hK.out _ _ ⟨(blk_cell BK135.out 0).trans rfl, (blk_cell BK135.out 1).trans rfl⟩ (fun hHeld => ?_)
         clear hK K
         refine norm_ (a' := ?_) ?_ ?_
         rotate_left
         ·show Act.put _ (some 55) _ = _
          simp only [Act.put, List.setIfInBounds_toArray, List.set_cons_zero, List.set_cons_succ, i64_w, i32_w]
          rfl
         refine one_ (i := 7) (N := some 56) #[true, true, true, true, true, true, true, true, false, false] rfl rfl (one_of HT_.out (by kernel_rfl)) (by decide) (fun K hK => ?_)
         refine goes_ Try.func17 (by kernel_rfl) rfl #[.slice Ao52 x8_2.length co52, .agg #[.int .i64 t150, .int .i64 t151]] (by rfl) rfl rfl (by (try simp only [List.map_toArray, List.map_cons, List.map_nil]); first | done | rfl | (simp only [List.length_drop, List.length_take]; rfl)) ?_
         with_reducible refine (impl_RangesFindAll.calls k2 _ _ x8_2 t150 t151 t152 _ ?side1 ?side2 A47.out).mono ?_
         (case side1 => repeat (first | exact (Kd.R_reads' HO_8.out).2.2 | (with_reducible refine Kd.C_alloc ?_ _) | (with_reducible refine Kd.C_drewN ?_ _) | (with_reducible refine Kd.C_drew ?_)))
         (case side2 => exact (Kd.R_reads' HO_8.out).2.1)
         rintro e w53 ⟨v153, rfl, ho0, hb⟩
         refine ⟨_, rfl, ?_⟩
         have n0_ := Aside0.mk (Kd.R_below (by (with_reducible repeat (first | apply Kd.R_alloc | apply Kd.R_drewN | apply Kd.R_drew)); exact HO_8.out) hb)
         have n1_ := Aside0.mk (Kd.R_elder' (by (with_reducible repeat (first | apply Kd.R_alloc | apply Kd.R_drewN | apply Kd.R_drew)); exact HO149.out) (Kd.R_base ho0) hb)
         have n2_ := Aside0.mk (Kd.R_lower (Kd.R_new' ho0 (Kd.R_lt (by (with_reducible repeat (first | apply Kd.R_alloc | apply Kd.R_drewN | apply Kd.R_drew)); exact HO149.out))) (below_size (by repeat (first | (with_reducible first | exact HB.out | apply below_alloc | apply pw_below_drewN | apply below_drew1 | refine below_set ?_ GE135.out | refine below_set ?_ GE136.out) | exact HB.out))))
         have n3_ := Aside0.mk (blk_below (g := gb135) (o := .cells #[.int .i64 a1_0, .int .i64 a1_1] 24 (0, 0)) (by (with_reducible repeat (first | refine blk_drewN ?_ _ | refine blk_drew ?_ | refine blk_alloc ?_ _)); exact BK135.out) hb)
         have n4_ := Aside0.mk (blk_below (g := gb136) (o := .cells #[.int .i64 a2] 3 (0, 0)) (by (with_reducible repeat (first | refine blk_drewN ?_ _ | refine blk_drew ?_ | refine blk_alloc ?_ _)); exact BK136.out) hb)
         have n5_ := Aside0.mk (below_step (by repeat (first | (with_reducible first | exact HB.out | apply below_alloc | apply pw_below_drewN | apply below_drew1 | refine below_set ?_ GE135.out | refine below_set ?_ GE136.out) | exact HB.out)) hb)
         clear HO_8
         clear HO149
         clear BK135
         clear BK136
         clear HB
         have HO_8 := n0_
         have HO149 := n1_
         have HO154 := n2_
         have BK135 := n3_
         have BK136 := n4_
         have HB := n5_
         clear n0_ n1_ n2_ n3_ n4_ n5_
         (try clear hb)
         (try clear hb2)
         (try clear hk)
         (try clear hi)
         (try clear ho0)
         refine hK.out _ _ ⟨(blk_cell BK135.out 0).trans rfl, (blk_cell BK135.out 1).trans rfl⟩ (fun hHeld => ?_)
         clear hK K
         refine norm_ (a' := ?_) ?_ ?_
         rotate_left
         ·show Act.put _ (some 56) _ = _
          simp only [Act.put, List.setIfInBounds_toArray, List.set_cons_zero, List.set_cons_succ, i64_w, i32_w]
          rfl
         refine pure_ (i := 8) (N := some 11) (v := ?_) (a' := ?_) #[true, true, true, true, true, true, true, true, true, false] rfl rfl (any_of HT_.out (by kernel_rfl)) (fun _ _ _ h => h) (Or.inl ⟨by rfl, ?_⟩) ?_ ?_
         rotate_left
         ·intro w'
          go_simp
          with_reducible rfl
         rotate_left
         ·simp only [Act.put, List.setIfInBounds_toArray, List.set_cons_zero, List.set_cons_succ, i64_w, i32_w]
          rfl
         refine pure_ (i := 9) (N := some 12) (v := ?_) (a' := ?_) #[true, true, true, true, true, true, true, true, true, true] rfl rfl (any_of HT_.out (by kernel_rfl)) (fun _ _ _ h => h) (Or.inl ⟨by rfl, ?_⟩) ?_ ?_
         rotate_left
         ·intro w'
          go_simp
          with_reducible rfl
         rotate_left
         ·simp only [Act.put, List.setIfInBounds_toArray, List.set_cons_zero, List.set_cons_succ, i64_w, i32_w]
          rfl
         refine done_ (done_of HT_.out (by kernel_rfl)) ?_
         go_upto_region 15 with (fail)
         go_cut [68] (fun v68 wc => ∃ (kq : Nat) (x68_47 : Bool), v68 = .bool x68_47 ∧ Aside0 (laws_FnRangesShift.j2 kq t147 t152 x68_47 a2 = some r) ∧ Aside0 (kq ≤ k2) ∧ Aside0 (Kd.R k31 31 wc w.heap.size (fun k_ => some k_ ≠ (v153 : Value).ownBlock) v148 t147) ∧ Aside0 (Kd.R k31 31 wc w.heap.size (fun k_ => some k_ ≠ (v148 : Value).ownBlock) v153 t152) ∧ Aside0 (wc.heap[gb135]? = some (.cells #[.int .i64 a1_0, .int .i64 a1_1] 24 (0, 0))) ∧ Aside0 (wc.heap[gb136]? = some (.cells #[.int .i64 a2] 3 (0, 0))) ∧ Aside0 (Below w.heap.size w wc))
         case first =>
          have H := HC48.out
          clear HC48
          by_cases c54 : (t147.length : Int) = (t152.length : Int)
          ·rw [if_pos c54] at H
           have c54b0 : ((t147.length : Int) == (t152.length : Int)) = true := beq_iff_eq.mpr c54
           have c54b1 : ((t147.length : Int) != (t152.length : Int)) = false := bne_eq_false_iff_eq.mpr c54
           have c54b2 : (t147.length == t152.length) = true := by first | simpa using c54 | (simp at c54 ⊢; omega)
           clear c54
           (first | rw [c54b0] | (simp only [i64_w, i32_w]; rw [c54b0]) | skip)
           replace H := Option.bind_eq_some_iff.mp H
           obtain ⟨t155, A550, H⟩ := H
           replace H : ((impl_RangesSize.f k2 x8_2).bind fun t156 => (laws_FnRangesShift.j2 k2 t147 t152 (t155 != t156) a2)) = some r := H
           have A55 := Aside0.mk A550
           clear A550
           replace H := Option.bind_eq_some_iff.mp H
           obtain ⟨t156, A560, H⟩ := H
           replace H : (laws_FnRangesShift.j2 k2 t147 t152 (t155 != t156) a2) = some r := H
           have A56 := Aside0.mk A560
           clear A560
           have H' := Aside0.mk H
           clear H
           obtain ⟨Ao57, co57, eo57⟩ := Kd.R_slice HO149.out
           subst eo57
           obtain ⟨Ao58, co58, eo58⟩ := Kd.R_slice HO154.out
           subst eo58
           go_wp2_with (first | (go_at_call 18; (with_reducible refine (impl_RangesSize.calls k2 _ _ l0 t155 _ ?side1 ?side2 A55.out).mono ?_); (case side1 => repeat (first | exact (Kd.C_below HR0.out HB.out) | (with_reducible refine Kd.C_alloc ?_ _) | (with_reducible refine Kd.C_drewN ?_ _) | (with_reducible refine Kd.C_drew ?_))); (case side2 => exact HC0.out); rintro e w59 ⟨rfl, hb⟩; have n0_ := Aside0.mk (Kd.R_below (by (with_reducible repeat (first | apply Kd.R_alloc | apply Kd.R_drewN | apply Kd.R_drew)); exact HO_8.out) hb); have n1_ := Aside0.mk (Kd.R_below (by (with_reducible repeat (first | apply Kd.R_alloc | apply Kd.R_drewN | apply Kd.R_drew)); exact HO149.out) hb); have n2_ := Aside0.mk (Kd.R_below (by (with_reducible repeat (first | apply Kd.R_alloc | apply Kd.R_drewN | apply Kd.R_drew)); exact HO154.out) hb); have n3_ := Aside0.mk (blk_below (g := gb135) (o := .cells #[.int .i64 a1_0, .int .i64 a1_1] 24 (0, 0)) (by (with_reducible repeat (first | refine blk_drewN ?_ _ | refine blk_drew ?_ | refine blk_alloc ?_ _)); exact BK135.out) hb); have n4_ := Aside0.mk (blk_below (g := gb136) (o := .cells #[.int .i64 a2] 3 (0, 0)) (by (with_reducible repeat (first | refine blk_drewN ?_ _ | refine blk_drew ?_ | refine blk_alloc ?_ _)); exact BK136.out) hb); have n5_ := Aside0.mk (below_step (by repeat (first | (with_reducible first | exact HB.out | apply below_alloc | apply pw_below_drewN | apply below_drew1 | refine below_set ?_ GE135.out | refine below_set ?_ GE136.out) | exact HB.out)) hb); clear HO_8; clear HO149; clear HO154; clear BK135; clear BK136; clear HB; have HO_8 := n0_; have HO149 := n1_; have HO154 := n2_; have BK135 := n3_; have BK136 := n4_; have HB := n5_; clear n0_ n1_ n2_ n3_ n4_ n5_; (try clear hb); (try clear hb2); (try clear hk); (try clear hi)) | (go_at_call 18; (with_reducible refine (impl_RangesSize.calls k2 _ _ x8_2 t156 _ ?side1 ?side2 A56.out).mono ?_); (case side1 => repeat (first | exact (Kd.R_reads' HO_8.out).2.2 | (with_reducible refine Kd.C_alloc ?_ _) | (with_reducible refine Kd.C_drewN ?_ _) | (with_reducible refine Kd.C_drew ?_))); (case side2 => exact (Kd.R_reads' HO_8.out).2.1); rintro e w60 ⟨rfl, hb⟩; have n0_ := Aside0.mk (Kd.R_below (by (with_reducible repeat (first | apply Kd.R_alloc | apply Kd.R_drewN | apply Kd.R_drew)); exact HO_8.out) hb); have n1_ := Aside0.mk (Kd.R_below (by (with_reducible repeat (first | apply Kd.R_alloc | apply Kd.R_drewN | apply Kd.R_drew)); exact HO149.out) hb); have n2_ := Aside0.mk (Kd.R_below (by (with_reducible repeat (first | apply Kd.R_alloc | apply Kd.R_drewN | apply Kd.R_drew)); exact HO154.out) hb); have n3_ := Aside0.mk (blk_below (g := gb135) (o := .cells #[.int .i64 a1_0, .int .i64 a1_1] 24 (0, 0)) (by (with_reducible repeat (first | refine blk_drewN ?_ _ | refine blk_drew ?_ | refine blk_alloc ?_ _)); exact BK135.out) hb); have n4_ := Aside0.mk (blk_below (g := gb136) (o := .cells #[.int .i64 a2] 3 (0, 0)) (by (with_reducible repeat (first | refine blk_drewN ?_ _ | refine blk_drew ?_ | refine blk_alloc ?_ _)); exact BK136.out) hb); have n5_ := Aside0.mk (below_step (by repeat (first | (with_reducible first | exact HB.out | apply below_alloc | apply pw_below_drewN | apply below_drew1 | refine below_set ?_ GE135.out | refine below_set ?_ GE136.out) | exact HB.out)) hb); clear HO_8; clear HO149; clear HO154; clear BK135; clear BK136; clear HB; have HO_8 := n0_; have HO149 := n1_; have HO154 := n2_; have BK135 := n3_; have BK136 := n4_; have HB := n5_; clear n0_ n1_ n2_ n3_ n4_ n5_; (try clear hb); (try clear hb2); (try clear hk); (try clear hi)))
           go_meet
           case rel => exact ⟨_, ((t155 != t156)), (by first | rfl | (simp; done) | (simp [*]; done)), H', ⟨by have := HJ6.out; have := HK2.out; first | omega | exact Nat.le_refl _⟩, ⟨by (with_reducible repeat (first | apply Kd.R_alloc | apply Kd.R_drewN | apply Kd.R_drew)); exact Kd.R_mono HO149.out (fun _ hk => hk.2)⟩, ⟨by (with_reducible repeat (first | apply Kd.R_alloc | apply Kd.R_drewN | apply Kd.R_drew)); exact Kd.R_mono HO154.out (fun _ hk => hk.2)⟩, ⟨by (with_reducible repeat (first | refine blk_drewN ?_ _ | refine blk_drew ?_ | refine blk_alloc ?_ _)); exact BK135.out⟩, ⟨by (with_reducible repeat (first | refine blk_drewN ?_ _ | refine blk_drew ?_ | refine blk_alloc ?_ _)); exact BK136.out⟩, ⟨by repeat (first | (with_reducible first | exact HB.out | apply below_alloc | apply pw_below_drewN | apply below_drew1 | refine below_set ?_ GE135.out | refine below_set ?_ GE136.out) | exact HB.out)⟩⟩
          ·rw [if_neg c54] at H
           have c54b0 : ((t147.length : Int) == (t152.length : Int)) = false := beq_eq_false_iff_ne.mpr c54
           have c54b1 : ((t147.length : Int) != (t152.length : Int)) = true := bne_iff_ne.mpr c54
           have c54b2 : (t147.length == t152.length) = false := by first | simpa using c54 | (simp at c54 ⊢; omega)
           (first | rw [c54b0] | (simp only [i64_w, i32_w]; rw [c54b0]) | skip)
           have H' := Aside0.mk H
           clear H
           obtain ⟨Ao61, co61, eo61⟩ := Kd.R_slice HO149.out
           subst eo61
           obtain ⟨Ao62, co62, eo62⟩ := Kd.R_slice HO154.out
           subst eo62
           go_wp2
           go_meet
           case rel => exact ⟨_, (true), (by first | rfl | (simp; done) | (simp [*]; done)), H', ⟨by have := HJ6.out; have := HK2.out; first | omega | exact Nat.le_refl _⟩, ⟨by (with_reducible repeat (first | apply Kd.R_alloc | apply Kd.R_drewN | apply Kd.R_drew)); exact Kd.R_mono HO149.out (fun _ hk => hk.2)⟩, ⟨by (with_reducible repeat (first | apply Kd.R_alloc | apply Kd.R_drewN | apply Kd.R_drew)); exact Kd.R_mono HO154.out (fun _ hk => hk.2)⟩, ⟨by (with_reducible repeat (first | refine blk_drewN ?_ _ | refine blk_drew ?_ | refine blk_alloc ?_ _)); exact BK135.out⟩, ⟨by (with_reducible repeat (first | refine blk_drewN ?_ _ | refine blk_drew ?_ | refine blk_alloc ?_ _)); exact BK136.out⟩, ⟨by repeat (first | (with_reducible first | exact HB.out | apply below_alloc | apply pw_below_drewN | apply below_drew1 | refine below_set ?_ GE135.out | refine below_set ?_ GE136.out) | exact HB.out)⟩⟩
         case rest =>
          clear HC48
          try clear c1
          try clear p1
          try clear q1
          try clear hx1
          try clear c2
          try clear p2
          try clear c3
          try clear c4
          try clear c4b0
          try clear c4b1
          try clear c5
          try clear p6
          try clear c11
          try clear c13
          try clear c14
          try clear c14b0
          try clear p14
          try clear q14
          try clear hx14
          try clear c16
          try clear c17
          try clear c21
          try clear c26
          try clear c30
          try clear c32
          try clear c34
          try clear c34b0
          try clear c35
          try clear c35b0
          try clear c36
          try clear c36b0
          try clear c38
          try clear c40
          try clear c41
          try clear c54
          try clear c54b0
          try clear c54b1
          try clear c54b2
          try clear hcz17_0
          try clear hcz17_1
          try clear hcz19_0
          try clear hcz22_0
          try clear hcz22_1
          try clear hcz24_0
          try clear hcz27_0
          try clear hcz27_1
          try clear hcz42_0
          try clear hcz42_1
          try clear hfz17_0
          try clear hfz17_1
          try clear hfz19_0
          try clear hfz22_0
          try clear hfz22_1
          try clear hfz24_0
          try clear hfz27_0
          try clear hfz27_1
          try clear hfz42_0
          try clear hfz42_1
          try clear hx140_0
          try clear hx140_1
          try clear p140
          try clear p2
          try clear q140
          obtain ⟨kq, x68_47, rfl, HA, HJ47, HO_11, HO_12, BK135, BK136, HB⟩ := hcut
          cases kq with
          | zero => exact absurd HA.out (by simp [laws_FnRangesShift.j2])
          | succ kj47 =>
           have H := HA.out
           clear HA
           simp only [laws_FnRangesShift.j2] at H
           by_cases c63 : x68_47 = true
           ·subst c63
            have H1 : (some false) = some r := by rw [if_pos rfl] at H; exact H
            clear H
            have H := H1
            clear H1
            obtain rfl := Option.some.inj H
            go_wp2
            go_ret
            exact ⟨by first | rfl | (simp [errW_none, errW_some] <;> rfl) | (simp [*, errW_none, errW_some] <;> rfl), by repeat (first | (with_reducible first | exact HB.out | apply below_alloc | apply pw_below_drewN | apply below_drew1 | refine below_set ?_ GE135.out | refine below_set ?_ GE136.out) | exact HB.out)⟩
           ·replace c63 := Bool.eq_false_iff.mpr c63
            subst c63
            have H1 : (laws_FnRangesShift.l1 kj47 t147 t152 (t147.length : Int) 0 a2) = some r := by rw [if_neg (show ¬ (false = true) by decide)] at H; exact H
            clear H
            have H := H1
            clear H1
            have H' := Aside0.mk H
            clear H
            obtain ⟨Ao64, co64, eo64⟩ := Kd.R_slice HO_11.out
            subst eo64
            go_wp2
            go_loopg [71] kj47 (fun kq v71 w' => ∃ (x71_4 : Int), v71 = .int .i64 x71_4 ∧ Aside0 (laws_FnRangesShift.l1 kq t147 t152 (t147.length : Int) x71_4 a2 = some r) ∧ Aside0 (kq ≤ kj47) ∧ Aside0 (Kd.R k31 31 w' w.heap.size (fun k_ => some k_ ≠ (v153 : Value).ownBlock) (.slice Ao64 t147.length co64) t147) ∧ Aside0 (Kd.R k31 31 w' w.heap.size (fun k_ => some k_ ≠ ((.slice Ao64 t147.length co64) : Value).ownBlock) v153 t152) ∧ Aside0 (w'.heap[gb135]? = some (.cells #[.int .i64 a1_0, .int .i64 a1_1] 24 (0, 0))) ∧ Aside0 (w'.heap[gb136]? = some (.cells #[.int .i64 a2] 3 (0, 0))) ∧ Aside0 (Below w.heap.size w w'))
            case atStart => exact ⟨(0), (by first | rfl | (simp; done) | (simp [*]; done)), H', ⟨Nat.le_refl _⟩, ⟨by (with_reducible repeat (first | apply Kd.R_alloc | apply Kd.R_drewN | apply Kd.R_drew)); exact HO_11.out⟩, ⟨by (with_reducible repeat (first | apply Kd.R_alloc | apply Kd.R_drewN | apply Kd.R_drew)); exact HO_12.out⟩, ⟨by (with_reducible repeat (first | refine blk_drewN ?_ _ | refine blk_drew ?_ | refine blk_alloc ?_ _)); exact BK135.out⟩, ⟨by (with_reducible repeat (first | refine blk_drewN ?_ _ | refine blk_drew ?_ | refine blk_alloc ?_ _)); exact BK136.out⟩, ⟨by repeat (first | (with_reducible first | exact HB.out | apply below_alloc | apply pw_below_drewN | apply below_drew1 | refine below_set ?_ GE135.out | refine below_set ?_ GE136.out) | exact HB.out)⟩⟩
            case round =>
             clear H'
             try clear c1
             try clear p1
             try clear q1
             try clear hx1
             try clear c2
             try clear p2
             try clear c3
             try clear c4
             try clear c4b0
             try clear c4b1
             try clear c5
             try clear c6
             try clear p6
             try clear c11
             try clear c13
             try clear c14
             try clear c14b0
             try clear p14
             try clear q14
             try clear hx14
             try clear c16
             try clear c17
             try clear c21
             try clear c26
             try clear c30
             try clear c32
             try clear c34
             try clear c34b0
             try clear c35
             try clear c35b0
             try clear c36
             try clear c36b0
             try clear c38
             try clear c40
             try clear c41
             try clear c54
             try clear c54b0
             try clear c54b1
             try clear c54b2
             try clear c63
             try clear p64
             try clear hcz17_0
             try clear hcz17_1
             try clear hcz19_0
             try clear hcz22_0
             try clear hcz22_1
             try clear hcz24_0
             try clear hcz27_0
             try clear hcz27_1
             try clear hcz42_0
             try clear hcz42_1
             try clear hfz17_0
             try clear hfz17_1
             try clear hfz19_0
             try clear hfz22_0
             try clear hfz22_1
             try clear hfz24_0
             try clear hfz27_0
             try clear hfz27_1
             try clear hfz42_0
             try clear hfz42_1
             try clear hx140_0
             try clear hx140_1
             try clear p1
             try clear p14
             try clear p140
             try clear p2
             try clear p6
             try clear q1
             try clear q14
             try clear q140
             obtain ⟨x71_4, rfl, HA, HK4, HO_11, HO_12, BK135, BK136, HB⟩ := hrel
             cases gk with
             | zero => exact absurd HA.out (by simp [laws_FnRangesShift.l1])
             | succ k4 =>
              have H := HA.out
              clear HA
              simp only [laws_FnRangesShift.l1] at H
              by_cases c65 : x71_4 < (t147.length : Int)
              ·rw [if_pos c65] at H
               have c65b0 : decide (x71_4 < (t147.length : Int)) = true := decide_eq_true c65
               clear c65
               by_cases c66 : 0 ≤ x71_4
               ·rw [if_pos c66] at H
                have c66b0 : decide (0 ≤ x71_4) = true := decide_eq_true c66
                clear c66
                by_cases c67 : x71_4 < (t147.length : Int)
                ·rw [if_pos c67] at H
                 have c67b0 : decide (x71_4 < (t147.length : Int)) = true := decide_eq_true c67
                 clear c67
                 replace H := Option.bind_eq_some_iff.mp H
                 obtain ⟨⟨t158, t159⟩, A680, H⟩ := H
                 replace H : (if x71_4 < (t152.length : Int) then (if (!(t158 == ((rd_T31 t152 x71_4).f0.f0)) || (!(t159 == ((rd_T31 t152 x71_4).f0.f1)))) = true then (some false) else (if (((rd_T31 t147 x71_4).f1) != ((rd_T31 t152 x71_4).f1)) = true then (some false) else (laws_FnRangesShift.l1 k4 t147 t152 (t147.length : Int) (wrap64 (x71_4 + 1)) a2))) else (none)) = some r := H
                 have A68 := Aside0.mk A680
                 clear A680
                 by_cases c69 : x71_4 < (t152.length : Int)
                 ·rw [if_pos c69] at H
                  have c69b0 : decide (x71_4 < (t152.length : Int)) = true := decide_eq_true c69
                  clear c69
                  by_cases c70 : (!(t158 == ((rd_T31 t152 x71_4).f0.f0)) || (!(t159 == ((rd_T31 t152 x71_4).f0.f1)))) = true
                  ·rw [if_pos c70] at H
                   have c70b0 : (!(t158 == ((rd_T31 t152 x71_4).f0.f0)) || (!(t159 == ((rd_T31 t152 x71_4).f0.f1)))) = true := c70
                   clear c70
                   obtain rfl := Option.some.inj H
                   try go_wp2
                   have n0_ := Aside0.mk (Kd.R_drew HO_11.out)
                   have n1_ := Aside0.mk (Kd.R_drew HO_12.out)
                   have n2_ := Aside0.mk (blk_drew BK135.out)
                   have n3_ := Aside0.mk (blk_drew BK136.out)
                   have n4_ := Aside0.mk (below_drew1 HB.out)
                   clear HO_11
                   clear HO_12
                   clear BK135
                   clear BK136
                   clear HB
                   have HO_11 := n0_
                   have HO_12 := n1_
                   have BK135 := n2_
                   have BK136 := n3_
                   have HB := n4_
                   clear n0_ n1_ n2_ n3_ n4_
                   have p157 : 0 ≤ (x71_4 : Int) := of_decide_eq_true (by first | (with_reducible assumption) | assumption)
                   have q157 : x71_4 < (t147.length : Int) := of_decide_eq_true (by first | (with_reducible assumption) | assumption)
                   obtain ⟨ad157, e157, hx157_0, hx157_1, hx157_2⟩ := at_T31 (Kd.R_reads' HO_11.out).2.2 x71_4 p157 q157
                   cases e157
                   replace p157 := eq_true p157
                   replace q157 := eq_true q157
                   obtain ⟨Ao72, co72, eo72⟩ := Kd.R_slice HO_12.out
                   (first | subst eo72 | (injection eo72 with f1_ f2_ f3_; have f4_ := f1_.symm; have f5_ := f3_.symm; clear f1_ f2_ f3_; subst f4_; subst f5_))
                   have p160 : 0 ≤ (x71_4 : Int) := of_decide_eq_true (by first | (with_reducible assumption) | assumption)
                   have q160 : x71_4 < (t152.length : Int) := of_decide_eq_true (by first | (with_reducible assumption) | assumption)
                   obtain ⟨ad160, e160, hx160_0, hx160_1, hx160_2⟩ := at_T31 (Kd.R_reads' HO_12.out).2.2 x71_4 p160 q160
                   cases e160
                   replace p160 := eq_true p160
                   replace q160 := eq_true q160
                   refine start_ (n := 26) (S := fun w' => w'.cell? (ad157.add ((x71_4).toNat * 3)) = some (.int .i64 ((rd_T31 t147 x71_4).f0.f0)) ∧ w'.cell? ⟨(ad157.add ((x71_4).toNat * 3)).block, (ad157.add ((x71_4).toNat * 3)).off + 1, none⟩ = some (.int .i64 ((rd_T31 t147 x71_4).f0.f1)) ∧ w'.cell? ⟨(ad157.add ((x71_4).toNat * 3)).block, (ad157.add ((x71_4).toNat * 3)).off + 2, none⟩ = some (.bool ((rd_T31 t147 x71_4).f1)) ∧ w'.cell? (ad160.add ((x71_4).toNat * 3)) = some (.int .i64 ((rd_T31 t152 x71_4).f0.f0)) ∧ w'.cell? ⟨(ad160.add ((x71_4).toNat * 3)).block, (ad160.add ((x71_4).toNat * 3)).off + 1, none⟩ = some (.int .i64 ((rd_T31 t152 x71_4).f0.f1)) ∧ w'.cell? ⟨(ad160.add ((x71_4).toNat * 3)).block, (ad160.add ((x71_4).toNat * 3)).off + 2, none⟩ = some (.bool ((rd_T31 t152 x71_4).f1))) (ds := []) #[false, false, false, false, false, false, false, false, false, false, false, false, false, false, false, false, false, false, false, false, false, false, false, false, false, false] (by kernel_rfl) rfl rfl ⟨hx157_0, hx157_1, hx157_2, hx160_0, hx160_1, hx160_2⟩ (fun hHeld => ?_); refine with_tabW laws_FnRangesShift.tab20 laws_FnRangesShift.bits20 (fun HT_ HW_ => ?_)
                   generalize wr.drew = w71 at HO_11 HO_12 BK135 BK136 HB hx157_0 hx157_1 hx157_2 hx160_0 hx160_1 hx160_2 hHeld ⊢
                   refine pure_ (i := 0) (N := some 74) (v := ?_) (a' := ?_) #[true, false, false, false, false, false, false, false, false, false, false, false, false, false, false, false, false, false, false, false, false, false, false, false, false, false] rfl rfl (any_of HT_.out (by kernel_rfl)) (fun _ _ _ h => h) (Or.inl ⟨by rfl, ?_⟩) ?_ ?_
                   rotate_left
                   ·intro w'
                    go_simp
                    with_reducible rfl
                   rotate_left
                   ·simp only [Act.put, List.setIfInBounds_toArray, List.set_cons_zero, List.set_cons_succ, i64_w, i32_w]
                    rfl
                   refine pure_ (i := 1) (N := some 75) (v := ?_) (a' := ?_) #[true, true, false, false, false, false, false, false, false, false, false, false, false, false, false, false, false, false, false, false, false, false, false, false, false, false] rfl rfl (any_of HT_.out (by kernel_rfl)) (fun _ _ _ h => h) (Or.inl ⟨by rfl, ?_⟩) ?_ ?_
                   rotate_left
                   ·intro w'
                    go_simp
                    with_reducible rfl
                   rotate_left
                   ·simp only [Act.put, List.setIfInBounds_toArray, List.set_cons_zero, List.set_cons_succ, i64_w, i32_w]
                    rfl
                   refine pure_ (i := 2) (N := some 76) (v := ?_) (a' := ?_) #[true, true, true, false, false, false, false, false, false, false, false, false, false, false, false, false, false, false, false, false, false, false, false, false, false, false] rfl rfl (any_of HT_.out (by kernel_rfl)) (fun _ _ _ h => h) (Or.inl ⟨by rfl, ?_⟩) ?_ ?_
                   rotate_left
                   ·intro w'
                    go_simp
                    with_reducible rfl
                   rotate_left
                   ·simp only [Act.put, List.setIfInBounds_toArray, List.set_cons_zero, List.set_cons_succ, i64_w, i32_w]
                    rfl
                   refine pure_ (i := 3) (N := some 77) (v := ?_) (a' := ?_) #[true, true, true, true, false, false, false, false, false, false, false, false, false, false, false, false, false, false, false, false, false, false, false, false, false, false] rfl rfl (any_of HT_.out (by kernel_rfl)) (fun _ _ _ h => h) (Or.inl ⟨by rfl, ?_⟩) ?_ ?_
                   rotate_left
                   ·intro w'
                    go_simp
                    with_reducible rfl
                   rotate_left
                   ·simp only [Act.put, List.setIfInBounds_toArray, List.set_cons_zero, List.set_cons_succ, i64_w, i32_w]
                    rfl
                   refine pure_ (i := 4) (N := some 78) (v := ?_) (a' := ?_) #[true, true, true, true, true, false, false, false, false, false, false, false, false, false, false, false, false, false, false, false, false, false, false, false, false, false] rfl rfl (any_of HT_.out (by kernel_rfl)) (fun _ _ _ h => h) (Or.inl ⟨by rfl, ?_⟩) ?_ ?_
                   rotate_left
                   ·intro w'
                    go_simp
                    with_reducible rfl
                   rotate_left
                   ·simp only [Act.put, List.setIfInBounds_toArray, List.set_cons_zero, List.set_cons_succ, i64_w, i32_w]
                    rfl
                   refine pure_ (i := 7) (N := some 81) (v := ?_) (a' := ?_) #[true, true, true, true, true, false, false, true, false, false, false, false, false, false, false, false, false, false, false, false, false, false, false, false, false, false] rfl rfl (any_of HT_.out (by kernel_rfl)) (fun _ _ _ h => h) (Or.inl ⟨by rfl, ?_⟩) ?_ ?_
                   rotate_left
                   ·intro w'
                    go_simp
                    with_reducible rfl
                   rotate_left
                   ·simp only [Act.put, List.setIfInBounds_toArray, List.set_cons_zero, List.set_cons_succ, i64_w, i32_w]
                    rfl
                   refine pure_ (i := 8) (N := some 82) (v := ?_) (a' := ?_) #[true, true, true, true, true, false, false, true, true, false, false, false, false, false, false, false, false, false, false, false, false, false, false, false, false, false] rfl rfl (any_of HT_.out (by kernel_rfl)) (fun _ _ _ h => h) (Or.inl ⟨by rfl, ?_⟩) ?_ ?_
                   rotate_left
                   ·intro w'
                    go_simp
                    with_reducible rfl
                   rotate_left
                   ·simp only [Act.put, List.setIfInBounds_toArray, List.set_cons_zero, List.set_cons_succ, i64_w, i32_w]
                    rfl
                   refine pure_ (i := 9) (N := some 83) (v := ?_) (a' := ?_) #[true, true, true, true, true, false, false, true, true, true, false, false, false, false, false, false, false, false, false, false, false, false, false, false, false, false] rfl rfl (any_of HT_.out (by kernel_rfl)) (fun _ _ _ h => h) (Or.inl ⟨by rfl, ?_⟩) ?_ ?_
                   rotate_left
                   ·intro w'
                    go_simp
                    with_reducible rfl
                   rotate_left
                   ·simp only [Act.put, List.setIfInBounds_toArray, List.set_cons_zero, List.set_cons_succ, i64_w, i32_w]
                    rfl
                   refine pure_ (i := 10) (N := some 84) (v := ?_) (a' := ?_) #[true, true, true, true, true, false, false, true, true, true, true, false, false, false, false, false, false, false, false, false, false, false, false, false, false, false] rfl rfl (any_of HT_.out (by kernel_rfl)) (fun _ _ _ h => h) (Or.inl ⟨by rfl, ?_⟩) ?_ ?_
                   rotate_left
                   ·intro w'
                    go_simp
                    with_reducible rfl
                   rotate_left
                   ·simp only [Act.put, List.setIfInBounds_toArray, List.set_cons_zero, List.set_cons_succ, i64_w, i32_w]
                    rfl
                   refine take_ (i := 5) (N := some 79) (v := ?_) (a' := ?_) #[true, true, true, true, true, true, false, true, true, true, true, false, false, false, false, false, false, false, false, false, false, false, false, false, false, false] rfl rfl (take_ofW HT_.out HW_.out (by kernel_rfl)) (fun _ _ _ h => h) (Or.inl ⟨by rfl, ?_⟩) hHeld ?_ ?_
                   rotate_left
                   ·rintro w' ⟨s0, s1, s2, s3, s4, s5⟩
                    go_simp
                    with_reducible rfl
                   rotate_left
                   ·simp only [Act.put, List.setIfInBounds_toArray, List.set_cons_zero, List.set_cons_succ, i64_w, i32_w]
                    rfl
                   refine take_ (i := 11) (N := some 85) (v := ?_) (a' := ?_) #[true, true, true, true, true, true, false, true, true, true, true, true, false, false, false, false, false, false, false, false, false, false, false, false, false, false] rfl rfl (take_ofW HT_.out HW_.out (by kernel_rfl)) (fun _ _ _ h => h) (Or.inl ⟨by rfl, ?_⟩) hHeld ?_ ?_
                   rotate_left
                   ·rintro w' ⟨s0, s1, s2, s3, s4, s5⟩
                    go_simp
                    with_reducible rfl
                   rotate_left
                   ·simp only [Act.put, List.setIfInBounds_toArray, List.set_cons_zero, List.set_cons_succ, i64_w, i32_w]
                    rfl
                   refine one_ (i := 6) (N := some 80) #[true, true, true, true, true, true, true, true, true, true, true, true, false, false, false, false, false, false, false, false, false, false, false, false, false, false] rfl rfl (one_of HT_.out (by kernel_rfl)) (by decide) (fun K hK => ?_)
                   refine goesD_ Try.func16 (by kernel_rfl) rfl #[.agg #[.int .i64 ((rd_T31 t147 x71_4).f0.f0), .int .i64 ((rd_T31 t147 x71_4).f0.f1)], .pointer (some ⟨gb136, 0, none⟩)] (by rfl) rfl rfl rfl (by (try simp only [List.map_toArray, List.map_cons, List.map_nil]); first | done | rfl | (simp only [List.length_drop, List.length_take]; rfl)) ?_
                   with_reducible refine (rangesShift1.calls gb136 ((rd_T31 t147 x71_4).f0.f0) ((rd_T31 t147 x71_4).f0.f1) a2 t158 t159 _ ((blk_cell (g := gb136) (t := 3) (cs := #[.int .i64 a2]) (by (with_reducible repeat (first | refine blk_drewN ?_ _ | refine blk_drew ?_ | refine blk_alloc ?_ _)); exact BK136.out) 0).trans rfl) A68.out).mono ?_
                   rintro e w73 ⟨rfl, hb⟩
                   have HS0_ := (hb.cell (World.block_lt_of_cell? _ _ (hHeld.1))).trans (hHeld.1)
                   have HS1_ := (hb.cell (World.block_lt_of_cell? _ _ (hHeld.2.1))).trans (hHeld.2.1)
                   have HS2_ := (hb.cell (World.block_lt_of_cell? _ _ (hHeld.2.2.1))).trans (hHeld.2.2.1)
                   have HS3_ := (hb.cell (World.block_lt_of_cell? _ _ (hHeld.2.2.2.1))).trans (hHeld.2.2.2.1)
                   have HS4_ := (hb.cell (World.block_lt_of_cell? _ _ (hHeld.2.2.2.2.1))).trans (hHeld.2.2.2.2.1)
                   have HS5_ := (hb.cell (World.block_lt_of_cell? _ _ (hHeld.2.2.2.2.2))).trans (hHeld.2.2.2.2.2)
                   refine ⟨_, rfl, ?_⟩
                   have n0_ := Aside0.mk (Kd.R_below (by (with_reducible repeat (first | apply Kd.R_alloc | apply Kd.R_drewN | apply Kd.R_drew)); exact HO_11.out) hb)
                   have n1_ := Aside0.mk (Kd.R_below (by (with_reducible repeat (first | apply Kd.R_alloc | apply Kd.R_drewN | apply Kd.R_drew)); exact HO_12.out) hb)
                   have n2_ := Aside0.mk (blk_below (g := gb135) (o := .cells #[.int .i64 a1_0, .int .i64 a1_1] 24 (0, 0)) (by (with_reducible repeat (first | refine blk_drewN ?_ _ | refine blk_drew ?_ | refine blk_alloc ?_ _)); exact BK135.out) hb)
                   have n3_ := Aside0.mk (blk_below (g := gb136) (o := .cells #[.int .i64 a2] 3 (0, 0)) (by (with_reducible repeat (first | refine blk_drewN ?_ _ | refine blk_drew ?_ | refine blk_alloc ?_ _)); exact BK136.out) hb)
                   have n4_ := Aside0.mk (below_step (by repeat (first | (with_reducible first | exact HB.out | apply below_alloc | apply pw_below_drewN | apply below_drew1 | refine below_set ?_ GE135.out | refine below_set ?_ GE136.out) | exact HB.out)) hb)
                   clear HO_11
                   clear HO_12
                   clear BK135
                   clear BK136
                   clear HB
                   have HO_11 := n0_
                   have HO_12 := n1_
                   have BK135 := n2_
                   have BK136 := n3_
                   have HB := n4_
                   clear n0_ n1_ n2_ n3_ n4_
                   (try clear hb)
                   (try clear hb2)
                   (try clear hk)
                   (try clear hi)
                   refine hK.out _ _ ⟨HS0_, HS1_, HS2_, HS3_, HS4_, HS5_⟩ (fun hHeld => ?_)
                   clear hK K
                   refine norm_ (a' := ?_) ?_ ?_
                   rotate_left
                   ·show Act.put _ (some 80) _ = _
                    simp only [Act.put, List.setIfInBounds_toArray, List.set_cons_zero, List.set_cons_succ, i64_w, i32_w]
                    rfl
                   refine pure_ (i := 12) (N := some 86) (v := ?_) (a' := ?_) #[true, true, true, true, true, true, true, true, true, true, true, true, true, false, false, false, false, false, false, false, false, false, false, false, false, false] rfl rfl (any_of HT_.out (by kernel_rfl)) (fun _ _ _ h => h) (Or.inl ⟨by rfl, ?_⟩) ?_ ?_
                   rotate_left
                   ·intro w'
                    go_simp
                    with_reducible rfl
                   rotate_left
                   ·simp only [Act.put, List.setIfInBounds_toArray, List.set_cons_zero, List.set_cons_succ, i64_w, i32_w]
                    rfl
                   refine pure_ (i := 13) (N := some 87) (v := ?_) (a' := ?_) #[true, true, true, true, true, true, true, true, true, true, true, true, true, true, false, false, false, false, false, false, false, false, false, false, false, false] rfl rfl (any_of HT_.out (by kernel_rfl)) (fun _ _ _ h => h) (Or.inl ⟨by rfl, ?_⟩) ?_ ?_
                   rotate_left
                   ·intro w'
                    go_simp
                    with_reducible rfl
                   rotate_left
                   ·simp only [Act.put, List.setIfInBounds_toArray, List.set_cons_zero, List.set_cons_succ, i64_w, i32_w]
                    rfl
                   refine pure_ (i := 14) (N := some 88) (v := undef) (a' := ?_) #[true, true, true, true, true, true, true, true, true, true, true, true, true, true, true, false, false, false, false, false, false, false, false, false, false, false] rfl rfl (any_of HT_.out (by kernel_rfl)) (fun _ _ _ h => h) (Or.inr ⟨by rfl, rfl⟩) ?_ ?_
                   rotate_left
                   ·simp only [Act.put, List.setIfInBounds_toArray, List.set_cons_zero, List.set_cons_succ, i64_w, i32_w]
                    rfl
                   refine pure_ (i := 15) (N := some 89) (v := undef) (a' := ?_) #[true, true, true, true, true, true, true, true, true, true, true, true, true, true, true, true, false, false, false, false, false, false, false, false, false, false] rfl rfl (any_of HT_.out (by kernel_rfl)) (fun _ _ _ h => h) (Or.inr ⟨by rfl, rfl⟩) ?_ ?_
                   rotate_left
                   ·simp only [Act.put, List.setIfInBounds_toArray, List.set_cons_zero, List.set_cons_succ, i64_w, i32_w]
                    rfl
                   refine pure_ (i := 16) (N := some 90) (v := undef) (a' := ?_) #[true, true, true, true, true, true, true, true, true, true, true, true, true, true, true, true, true, false, false, false, false, false, false, false, false, false] rfl rfl (any_of HT_.out (by kernel_rfl)) (fun _ _ _ h => h) (Or.inr ⟨by rfl, rfl⟩) ?_ ?_
                   rotate_left
                   ·simp only [Act.put, List.setIfInBounds_toArray, List.set_cons_zero, List.set_cons_succ, i64_w, i32_w]
                    rfl
                   refine pure_ (i := 17) (N := some 91) (v := undef) (a' := ?_) #[true, true, true, true, true, true, true, true, true, true, true, true, true, true, true, true, true, true, false, false, false, false, false, false, false, false] rfl rfl (any_of HT_.out (by kernel_rfl)) (fun _ _ _ h => h) (Or.inr ⟨by rfl, rfl⟩) ?_ ?_
                   rotate_left
                   ·simp only [Act.put, List.setIfInBounds_toArray, List.set_cons_zero, List.set_cons_succ, i64_w, i32_w]
                    rfl
                   refine pure_ (i := 18) (N := some 92) (v := undef) (a' := ?_) #[true, true, true, true, true, true, true, true, true, true, true, true, true, true, true, true, true, true, true, false, false, false, false, false, false, false] rfl rfl (any_of HT_.out (by kernel_rfl)) (fun _ _ _ h => h) (Or.inr ⟨by rfl, rfl⟩) ?_ ?_
                   rotate_left
                   ·simp only [Act.put, List.setIfInBounds_toArray, List.set_cons_zero, List.set_cons_succ, i64_w, i32_w]
                    rfl
                   refine pure_ (i := 19) (N := some 93) (v := undef) (a' := ?_) #[true, true, true, true, true, true, true, true, true, true, true, true, true, true, true, true, true, true, true, true, false, false, false, false, false, false] rfl rfl (any_of HT_.out (by kernel_rfl)) (fun _ _ _ h => h) (Or.inr ⟨by rfl, rfl⟩) ?_ ?_
                   rotate_left
                   ·simp only [Act.put, List.setIfInBounds_toArray, List.set_cons_zero, List.set_cons_succ, i64_w, i32_w]
                    rfl
                   refine pure_ (i := 20) (N := some 94) (v := undef) (a' := ?_) #[true, true, true, true, true, true, true, true, true, true, true, true, true, true, true, true, true, true, true, true, true, false, false, false, false, false] rfl rfl (any_of HT_.out (by kernel_rfl)) (fun _ _ _ h => h) (Or.inr ⟨by rfl, rfl⟩) ?_ ?_
                   rotate_left
                   ·simp only [Act.put, List.setIfInBounds_toArray, List.set_cons_zero, List.set_cons_succ, i64_w, i32_w]
                    rfl
                   refine pure_ (i := 21) (N := some 95) (v := undef) (a' := ?_) #[true, true, true, true, true, true, true, true, true, true, true, true, true, true, true, true, true, true, true, true, true, true, false, false, false, false] rfl rfl (any_of HT_.out (by kernel_rfl)) (fun _ _ _ h => h) (Or.inr ⟨by rfl, rfl⟩) ?_ ?_
                   rotate_left
                   ·simp only [Act.put, List.setIfInBounds_toArray, List.set_cons_zero, List.set_cons_succ, i64_w, i32_w]
                    rfl
                   refine pure_ (i := 22) (N := some 96) (v := undef) (a' := ?_) #[true, true, true, true, true, true, true, true, true, true, true, true, true, true, true, true, true, true, true, true, true, true, true, false, false, false] rfl rfl (any_of HT_.out (by kernel_rfl)) (fun _ _ _ h => h) (Or.inr ⟨by rfl, rfl⟩) ?_ ?_
                   rotate_left
                   ·simp only [Act.put, List.setIfInBounds_toArray, List.set_cons_zero, List.set_cons_succ, i64_w, i32_w]
                    rfl
                   refine pure_ (i := 23) (N := some 97) (v := undef) (a' := ?_) #[true, true, true, true, true, true, true, true, true, true, true, true, true, true, true, true, true, true, true, true, true, true, true, true, false, false] rfl rfl (any_of HT_.out (by kernel_rfl)) (fun _ _ _ h => h) (Or.inr ⟨by rfl, rfl⟩) ?_ ?_
                   rotate_left
                   ·simp only [Act.put, List.setIfInBounds_toArray, List.set_cons_zero, List.set_cons_succ, i64_w, i32_w]
                    rfl
                   refine pure_ (i := 24) (N := some 98) (v := undef) (a' := ?_) #[true, true, true, true, true, true, true, true, true, true, true, true, true, true, true, true, true, true, true, true, true, true, true, true, true, false] rfl rfl (any_of HT_.out (by kernel_rfl)) (fun _ _ _ h => h) (Or.inr ⟨by rfl, rfl⟩) ?_ ?_
                   rotate_left
                   ·simp only [Act.put, List.setIfInBounds_toArray, List.set_cons_zero, List.set_cons_succ, i64_w, i32_w]
                    rfl
                   refine pure_ (i := 25) (N := some 99) (v := ?_) (a' := ?_) #[true, true, true, true, true, true, true, true, true, true, true, true, true, true, true, true, true, true, true, true, true, true, true, true, true, true] rfl rfl (any_of HT_.out (by kernel_rfl)) (fun _ _ _ h => h) (Or.inl ⟨by rfl, ?_⟩) ?_ ?_
                   rotate_left
                   ·intro w'
                    go_simp
                    with_reducible rfl
                   rotate_left
                   ·simp only [Act.put, List.setIfInBounds_toArray, List.set_cons_zero, List.set_cons_succ, i64_w, i32_w]
                    rfl
                   refine done_ (done_of HT_.out (by kernel_rfl)) ?_
                   try go_wp2
                   go_ret
                   exact ⟨by first | rfl | (simp [errW_none, errW_some] <;> rfl) | (simp [*, errW_none, errW_some] <;> rfl), by repeat (first | (with_reducible first | exact HB.out | apply below_alloc | apply pw_below_drewN | apply below_drew1 | refine below_set ?_ GE135.out | refine below_set ?_ GE136.out) | exact HB.out)⟩
                  ·rw [if_neg c70] at H
                   have c70b0 : (!(t158 == ((rd_T31 t152 x71_4).f0.f0)) || (!(t159 == ((rd_T31 t152 x71_4).f0.f1)))) = false := by simpa using c70
                   clear c70
                   by_cases c74 : (((rd_T31 t147 x71_4).f1) != ((rd_T31 t152 x71_4).f1)) = true
                   ·rw [if_pos c74] at H
                    have c74b0 : (((rd_T31 t147 x71_4).f1) != ((rd_T31 t152 x71_4).f1)) = true := c74
                    (try (have c74b1 : decide (((rd_T31 t147 x71_4).f1) = ((rd_T31 t152 x71_4).f1)) = false := by simpa using c74))
                    (try (have c74b2 : (((rd_T31 t147 x71_4).f1) == ((rd_T31 t152 x71_4).f1)) = false := by simpa using c74))
                    (try (have c74b3 : ¬ (((rd_T31 t147 x71_4).f1) = ((rd_T31 t152 x71_4).f1)) := by simpa using c74))
                    clear c74
                    obtain rfl := Option.some.inj H
                    try go_wp2
                    have n0_ := Aside0.mk (Kd.R_drew HO_11.out)
                    have n1_ := Aside0.mk (Kd.R_drew HO_12.out)
                    have n2_ := Aside0.mk (blk_drew BK135.out)
                    have n3_ := Aside0.mk (blk_drew BK136.out)
                    have n4_ := Aside0.mk (below_drew1 HB.out)
                    clear HO_11
                    clear HO_12
                    clear BK135
                    clear BK136
                    clear HB
                    have HO_11 := n0_
                    have HO_12 := n1_
                    have BK135 := n2_
                    have BK136 := n3_
                    have HB := n4_
                    clear n0_ n1_ n2_ n3_ n4_
                    have p157 : 0 ≤ (x71_4 : Int) := of_decide_eq_true (by first | (with_reducible assumption) | assumption)
                    have q157 : x71_4 < (t147.length : Int) := of_decide_eq_true (by first | (with_reducible assumption) | assumption)
                    obtain ⟨ad157, e157, hx157_0, hx157_1, hx157_2⟩ := at_T31 (Kd.R_reads' HO_11.out).2.2 x71_4 p157 q157
                    cases e157
                    replace p157 := eq_true p157
                    replace q157 := eq_true q157
                    obtain ⟨Ao76, co76, eo76⟩ := Kd.R_slice HO_12.out
                    (first | subst eo76 | (injection eo76 with f1_ f2_ f3_; have f4_ := f1_.symm; have f5_ := f3_.symm; clear f1_ f2_ f3_; subst f4_; subst f5_))
                    have p160 : 0 ≤ (x71_4 : Int) := of_decide_eq_true (by first | (with_reducible assumption) | assumption)
                    have q160 : x71_4 < (t152.length : Int) := of_decide_eq_true (by first | (with_reducible assumption) | assumption)
                    obtain ⟨ad160, e160, hx160_0, hx160_1, hx160_2⟩ := at_T31 (Kd.R_reads' HO_12.out).2.2 x71_4 p160 q160
                    cases e160
                    replace p160 := eq_true p160
                    replace q160 := eq_true q160
                    have p161 : 0 ≤ (x71_4 : Int) := of_decide_eq_true (by first | (with_reducible assumption) | assumption)
                    have q161 : x71_4 < (t147.length : Int) := of_decide_eq_true (by first | (with_reducible assumption) | assumption)
                    obtain ⟨ad161, e161, hx161_0, hx161_1, hx161_2⟩ := at_T31 (Kd.R_reads' HO_11.out).2.2 x71_4 p161 q161
                    obtain rfl : ad157 = ad161 := (by injection e161)
                    replace p161 := eq_true p161
                    replace q161 := eq_true q161
                    have p162 : 0 ≤ (x71_4 : Int) := of_decide_eq_true (by first | (with_reducible assumption) | assumption)
                    have q162 : x71_4 < (t152.length : Int) := of_decide_eq_true (by first | (with_reducible assumption) | assumption)
                    obtain ⟨ad162, e162, hx162_0, hx162_1, hx162_2⟩ := at_T31 (Kd.R_reads' HO_12.out).2.2 x71_4 p162 q162
                    obtain rfl : ad160 = ad162 := (by injection e162)
                    replace p162 := eq_true p162
                    replace q162 := eq_true q162
                    refine start_ (n := 26) (S := fun w' => w'.cell? (ad157.add ((x71_4).toNat * 3)) = some (.int .i64 ((rd_T31 t147 x71_4).f0.f0)) ∧ w'.cell? ⟨(ad157.add ((x71_4).toNat * 3)).block, (ad157.add ((x71_4).toNat * 3)).off + 1, none⟩ = some (.int .i64 ((rd_T31 t147 x71_4).f0.f1)) ∧ w'.cell? ⟨(ad157.add ((x71_4).toNat * 3)).block, (ad157.add ((x71_4).toNat * 3)).off + 2, none⟩ = some (.bool ((rd_T31 t147 x71_4).f1)) ∧ w'.cell? (ad160.add ((x71_4).toNat * 3)) = some (.int .i64 ((rd_T31 t152 x71_4).f0.f0)) ∧ w'.cell? ⟨(ad160.add ((x71_4).toNat * 3)).block, (ad160.add ((x71_4).toNat * 3)).off + 1, none⟩ = some (.int .i64 ((rd_T31 t152 x71_4).f0.f1)) ∧ w'.cell? ⟨(ad160.add ((x71_4).toNat * 3)).block, (ad160.add ((x71_4).toNat * 3)).off + 2, none⟩ = some (.bool ((rd_T31 t152 x71_4).f1)) ∧ w'.cell? (ad157.add ((x71_4).toNat * 3)) = some (.int .i64 ((rd_T31 t147 x71_4).f0.f0)) ∧ w'.cell? ⟨(ad157.add ((x71_4).toNat * 3)).block, (ad157.add ((x71_4).toNat * 3)).off + 1, none⟩ = some (.int .i64 ((rd_T31 t147 x71_4).f0.f1)) ∧ w'.cell? ⟨(ad157.add ((x71_4).toNat * 3)).block, (ad157.add ((x71_4).toNat * 3)).off + 2, none⟩ = some (.bool ((rd_T31 t147 x71_4).f1)) ∧ w'.cell? (ad160.add ((x71_4).toNat * 3)) = some (.int .i64 ((rd_T31 t152 x71_4).f0.f0)) ∧ w'.cell? ⟨(ad160.add ((x71_4).toNat * 3)).block, (ad160.add ((x71_4).toNat * 3)).off + 1, none⟩ = some (.int .i64 ((rd_T31 t152 x71_4).f0.f1)) ∧ w'.cell? ⟨(ad160.add ((x71_4).toNat * 3)).block, (ad160.add ((x71_4).toNat * 3)).off + 2, none⟩ = some (.bool ((rd_T31 t152 x71_4).f1))) (ds := []) #[false, false, false, false, false, false, false, false, false, false, false, false, false, false, false, false, false, false, false, false, false, false, false, false, false, false] (by kernel_rfl) rfl rfl ⟨hx157_0, hx157_1, hx157_2, hx160_0, hx160_1, hx160_2, hx161_0, hx161_1, hx161_2, hx162_0, hx162_1, hx162_2⟩ (fun hHeld => ?_); refine with_tabW laws_FnRangesShift.tab20 laws_FnRangesShift.bits20 (fun HT_ HW_ => ?_)
                    generalize wr.drew = w75 at HO_11 HO_12 BK135 BK136 HB hx157_0 hx157_1 hx157_2 hx160_0 hx160_1 hx160_2 hx161_0 hx161_1 hx161_2 hx162_0 hx162_1 hx162_2 hHeld ⊢
                    refine pure_ (i := 0) (N := some 74) (v := ?_) (a' := ?_) #[true, false, false, false, false, false, false, false, false, false, false, false, false, false, false, false, false, false, false, false, false, false, false, false, false, false] rfl rfl (any_of HT_.out (by kernel_rfl)) (fun _ _ _ h => h) (Or.inl ⟨by rfl, ?_⟩) ?_ ?_
                    rotate_left
                    ·intro w'
                     go_simp
                     with_reducible rfl
                    rotate_left
                    ·simp only [Act.put, List.setIfInBounds_toArray, List.set_cons_zero, List.set_cons_succ, i64_w, i32_w]
                     rfl
                    refine pure_ (i := 1) (N := some 75) (v := ?_) (a' := ?_) #[true, true, false, false, false, false, false, false, false, false, false, false, false, false, false, false, false, false, false, false, false, false, false, false, false, false] rfl rfl (any_of HT_.out (by kernel_rfl)) (fun _ _ _ h => h) (Or.inl ⟨by rfl, ?_⟩) ?_ ?_
                    rotate_left
                    ·intro w'
                     go_simp
                     with_reducible rfl
                    rotate_left
                    ·simp only [Act.put, List.setIfInBounds_toArray, List.set_cons_zero, List.set_cons_succ, i64_w, i32_w]
                     rfl
                    refine pure_ (i := 2) (N := some 76) (v := ?_) (a' := ?_) #[true, true, true, false, false, false, false, false, false, false, false, false, false, false, false, false, false, false, false, false, false, false, false, false, false, false] rfl rfl (any_of HT_.out (by kernel_rfl)) (fun _ _ _ h => h) (Or.inl ⟨by rfl, ?_⟩) ?_ ?_
                    rotate_left
                    ·intro w'
                     go_simp
                     with_reducible rfl
                    rotate_left
                    ·simp only [Act.put, List.setIfInBounds_toArray, List.set_cons_zero, List.set_cons_succ, i64_w, i32_w]
                     rfl
                    refine pure_ (i := 3) (N := some 77) (v := ?_) (a' := ?_) #[true, true, true, true, false, false, false, false, false, false, false, false, false, false, false, false, false, false, false, false, false, false, false, false, false, false] rfl rfl (any_of HT_.out (by kernel_rfl)) (fun _ _ _ h => h) (Or.inl ⟨by rfl, ?_⟩) ?_ ?_
                    rotate_left
                    ·intro w'
                     go_simp
                     with_reducible rfl
                    rotate_left
                    ·simp only [Act.put, List.setIfInBounds_toArray, List.set_cons_zero, List.set_cons_succ, i64_w, i32_w]
                     rfl
                    refine pure_ (i := 4) (N := some 78) (v := ?_) (a' := ?_) #[true, true, true, true, true, false, false, false, false, false, false, false, false, false, false, false, false, false, false, false, false, false, false, false, false, false] rfl rfl (any_of HT_.out (by kernel_rfl)) (fun _ _ _ h => h) (Or.inl ⟨by rfl, ?_⟩) ?_ ?_
                    rotate_left
                    ·intro w'
                     go_simp
                     with_reducible rfl
                    rotate_left
                    ·simp only [Act.put, List.setIfInBounds_toArray, List.set_cons_zero, List.set_cons_succ, i64_w, i32_w]
                     rfl
                    refine pure_ (i := 7) (N := some 81) (v := ?_) (a' := ?_) #[true, true, true, true, true, false, false, true, false, false, false, false, false, false, false, false, false, false, false, false, false, false, false, false, false, false] rfl rfl (any_of HT_.out (by kernel_rfl)) (fun _ _ _ h => h) (Or.inl ⟨by rfl, ?_⟩) ?_ ?_
                    rotate_left
                    ·intro w'
                     go_simp
                     with_reducible rfl
                    rotate_left
                    ·simp only [Act.put, List.setIfInBounds_toArray, List.set_cons_zero, List.set_cons_succ, i64_w, i32_w]
                     rfl
                    refine pure_ (i := 8) (N := some 82) (v := ?_) (a' := ?_) #[true, true, true, true, true, false, false, true, true, false, false, false, false, false, false, false, false, false, false, false, false, false, false, false, false, false] rfl rfl (any_of HT_.out (by kernel_rfl)) (fun _ _ _ h => h) (Or.inl ⟨by rfl, ?_⟩) ?_ ?_
                    rotate_left
                    ·intro w'
                     go_simp
                     with_reducible rfl
                    rotate_left
                    ·simp only [Act.put, List.setIfInBounds_toArray, List.set_cons_zero, List.set_cons_succ, i64_w, i32_w]
                     rfl
                    refine pure_ (i := 9) (N := some 83) (v := ?_) (a' := ?_) #[true, true, true, true, true, false, false, true, true, true, false, false, false, false, false, false, false, false, false, false, false, false, false, false, false, false] rfl rfl (any_of HT_.out (by kernel_rfl)) (fun _ _ _ h => h) (Or.inl ⟨by rfl, ?_⟩) ?_ ?_
                    rotate_left
                    ·intro w'
                     go_simp
                     with_reducible rfl
                    rotate_left
                    ·simp only [Act.put, List.setIfInBounds_toArray, List.set_cons_zero, List.set_cons_succ, i64_w, i32_w]
                     rfl
                    refine pure_ (i := 10) (N := some 84) (v := ?_) (a' := ?_) #[true, true, true, true, true, false, false, true, true, true, true, false, false, false, false, false, false, false, false, false, false, false, false, false, false, false] rfl rfl (any_of HT_.out (by kernel_rfl)) (fun _ _ _ h => h) (Or.inl ⟨by rfl, ?_⟩) ?_ ?_
                    rotate_left
                    ·intro w'
                     go_simp
                     with_reducible rfl
                    rotate_left
                    ·simp only [Act.put, List.setIfInBounds_toArray, List.set_cons_zero, List.set_cons_succ, i64_w, i32_w]
                     rfl
                    refine take_ (i := 5) (N := some 79) (v := ?_) (a' := ?_) #[true, true, true, true, true, true, false, true, true, true, true, false, false, false, false, false, false, false, false, false, false, false, false, false, false, false] rfl rfl (take_ofW HT_.out HW_.out (by kernel_rfl)) (fun _ _ _ h => h) (Or.inl ⟨by rfl, ?_⟩) hHeld ?_ ?_
                    rotate_left
                    ·rintro w' ⟨s0, s1, s2, s3, s4, s5, s6, s7, s8, s9, s10, s11⟩
                     go_simp
                     with_reducible rfl
                    rotate_left
                    ·simp only [Act.put, List.setIfInBounds_toArray, List.set_cons_zero, List.set_cons_succ, i64_w, i32_w]
                     rfl
                    refine take_ (i := 11) (N := some 85) (v := ?_) (a' := ?_) #[true, true, true, true, true, true, false, true, true, true, true, true, false, false, false, false, false, false, false, false, false, false, false, false, false, false] rfl rfl (take_ofW HT_.out HW_.out (by kernel_rfl)) (fun _ _ _ h => h) (Or.inl ⟨by rfl, ?_⟩) hHeld ?_ ?_
                    rotate_left
                    ·rintro w' ⟨s0, s1, s2, s3, s4, s5, s6, s7, s8, s9, s10, s11⟩
                     go_simp
                     with_reducible rfl
                    rotate_left
                    ·simp only [Act.put, List.setIfInBounds_toArray, List.set_cons_zero, List.set_cons_succ, i64_w, i32_w]
                     rfl
                    refine one_ (i := 6) (N := some 80) #[true, true, true, true, true, true, true, true, true, true, true, true, false, false, false, false, false, false, false, false, false, false, false, false, false, false] rfl rfl (one_of HT_.out (by kernel_rfl)) (by decide) (fun K hK => ?_)
                    refine goesD_ Try.func16 (by kernel_rfl) rfl #[.agg #[.int .i64 ((rd_T31 t147 x71_4).f0.f0), .int .i64 ((rd_T31 t147 x71_4).f0.f1)], .pointer (some ⟨gb136, 0, none⟩)] (by rfl) rfl rfl rfl (by (try simp only [List.map_toArray, List.map_cons, List.map_nil]); first | done | rfl | (simp only [List.length_drop, List.length_take]; rfl)) ?_
                    with_reducible refine (rangesShift1.calls gb136 ((rd_T31 t147 x71_4).f0.f0) ((rd_T31 t147 x71_4).f0.f1) a2 t158 t159 _ ((blk_cell (g := gb136) (t := 3) (cs := #[.int .i64 a2]) (by (with_reducible repeat (first | refine blk_drewN ?_ _ | refine blk_drew ?_ | refine blk_alloc ?_ _)); exact BK136.out) 0).trans rfl) A68.out).mono ?_
                    rintro e w77 ⟨rfl, hb⟩
                    have HS0_ := (hb.cell (World.block_lt_of_cell? _ _ (hHeld.1))).trans (hHeld.1)
                    have HS1_ := (hb.cell (World.block_lt_of_cell? _ _ (hHeld.2.1))).trans (hHeld.2.1)
                    have HS2_ := (hb.cell (World.block_lt_of_cell? _ _ (hHeld.2.2.1))).trans (hHeld.2.2.1)
                    have HS3_ := (hb.cell (World.block_lt_of_cell? _ _ (hHeld.2.2.2.1))).trans (hHeld.2.2.2.1)
                    have HS4_ := (hb.cell (World.block_lt_of_cell? _ _ (hHeld.2.2.2.2.1))).trans (hHeld.2.2.2.2.1)
                    have HS5_ := (hb.cell (World.block_lt_of_cell? _ _ (hHeld.2.2.2.2.2.1))).trans (hHeld.2.2.2.2.2.1)
                    have HS6_ := (hb.cell (World.block_lt_of_cell? _ _ (hHeld.2.2.2.2.2.2.1))).trans (hHeld.2.2.2.2.2.2.1)
                    have HS7_ := (hb.cell (World.block_lt_of_cell? _ _ (hHeld.2.2.2.2.2.2.2.1))).trans (hHeld.2.2.2.2.2.2.2.1)
                    have HS8_ := (hb.cell (World.block_lt_of_cell? _ _ (hHeld.2.2.2.2.2.2.2.2.1))).trans (hHeld.2.2.2.2.2.2.2.2.1)
                    have HS9_ := (hb.cell (World.block_lt_of_cell? _ _ (hHeld.2.2.2.2.2.2.2.2.2.1))).trans (hHeld.2.2.2.2.2.2.2.2.2.1)
                    have HS10_ := (hb.cell (World.block_lt_of_cell? _ _ (hHeld.2.2.2.2.2.2.2.2.2.2.1))).trans (hHeld.2.2.2.2.2.2.2.2.2.2.1)
                    have HS11_ := (hb.cell (World.block_lt_of_cell? _ _ (hHeld.2.2.2.2.2.2.2.2.2.2.2))).trans (hHeld.2.2.2.2.2.2.2.2.2.2.2)
                    refine ⟨_, rfl, ?_⟩
                    have n0_ := Aside0.mk (Kd.R_below (by (with_reducible repeat (first | apply Kd.R_alloc | apply Kd.R_drewN | apply Kd.R_drew)); exact HO_11.out) hb)
                    have n1_ := Aside0.mk (Kd.R_below (by (with_reducible repeat (first | apply Kd.R_alloc | apply Kd.R_drewN | apply Kd.R_drew)); exact HO_12.out) hb)
                    have n2_ := Aside0.mk (blk_below (g := gb135) (o := .cells #[.int .i64 a1_0, .int .i64 a1_1] 24 (0, 0)) (by (with_reducible repeat (first | refine blk_drewN ?_ _ | refine blk_drew ?_ | refine blk_alloc ?_ _)); exact BK135.out) hb)
                    have n3_ := Aside0.mk (blk_below (g := gb136) (o := .cells #[.int .i64 a2] 3 (0, 0)) (by (with_reducible repeat (first | refine blk_drewN ?_ _ | refine blk_drew ?_ | refine blk_alloc ?_ _)); exact BK136.out) hb)
                    have n4_ := Aside0.mk (below_step (by repeat (first | (with_reducible first | exact HB.out | apply below_alloc | apply pw_below_drewN | apply below_drew1 | refine below_set ?_ GE135.out | refine below_set ?_ GE136.out) | exact HB.out)) hb)
                    clear HO_11
                    clear HO_12
                    clear BK135
                    clear BK136
                    clear HB
                    have HO_11 := n0_
                    have HO_12 := n1_
                    have BK135 := n2_
                    have BK136 := n3_
                    have HB := n4_
                    clear n0_ n1_ n2_ n3_ n4_
                    (try clear hb)
                    (try clear hb2)
                    (try clear hk)
                    (try clear hi)
                    refine hK.out _ _ ⟨HS0_, HS1_, HS2_, HS3_, HS4_, HS5_, HS6_, HS7_, HS8_, HS9_, HS10_, HS11_⟩ (fun hHeld => ?_)
                    clear hK K
                    refine norm_ (a' := ?_) ?_ ?_
                    rotate_left
                    ·show Act.put _ (some 80) _ = _
                     simp only [Act.put, List.setIfInBounds_toArray, List.set_cons_zero, List.set_cons_succ, i64_w, i32_w]
                     rfl
                    refine pure_ (i := 12) (N := some 86) (v := ?_) (a' := ?_) #[true, true, true, true, true, true, true, true, true, true, true, true, true, false, false, false, false, false, false, false, false, false, false, false, false, false] rfl rfl (any_of HT_.out (by kernel_rfl)) (fun _ _ _ h => h) (Or.inl ⟨by rfl, ?_⟩) ?_ ?_
                    rotate_left
                    ·intro w'
                     go_simp
                     with_reducible rfl
                    rotate_left
                    ·simp only [Act.put, List.setIfInBounds_toArray, List.set_cons_zero, List.set_cons_succ, i64_w, i32_w]
                     rfl
                    refine pure_ (i := 13) (N := some 87) (v := ?_) (a' := ?_) #[true, true, true, true, true, true, true, true, true, true, true, true, true, true, false, false, false, false, false, false, false, false, false, false, false, false] rfl rfl (any_of HT_.out (by kernel_rfl)) (fun _ _ _ h => h) (Or.inl ⟨by rfl, ?_⟩) ?_ ?_
                    rotate_left
                    ·intro w'
                     go_simp
                     with_reducible rfl
                    rotate_left
                    ·simp only [Act.put, List.setIfInBounds_toArray, List.set_cons_zero, List.set_cons_succ, i64_w, i32_w]
                     rfl
                    refine pure_ (i := 14) (N := some 88) (v := ?_) (a' := ?_) #[true, true, true, true, true, true, true, true, true, true, true, true, true, true, true, false, false, false, false, false, false, false, false, false, false, false] rfl rfl (any_of HT_.out (by kernel_rfl)) (fun _ _ _ h => h) (Or.inl ⟨by rfl, ?_⟩) ?_ ?_
                    rotate_left
                    ·intro w'
                     go_simp
                     with_reducible rfl
                    rotate_left
                    ·simp only [Act.put, List.setIfInBounds_toArray, List.set_cons_zero, List.set_cons_succ, i64_w, i32_w]
                     rfl
                    refine pure_ (i := 15) (N := some 89) (v := ?_) (a' := ?_) #[true, true, true, true, true, true, true, true, true, true, true, true, true, true, true, true, false, false, false, false, false, false, false, false, false, false] rfl rfl (any_of HT_.out (by kernel_rfl)) (fun _ _ _ h => h) (Or.inl ⟨by rfl, ?_⟩) ?_ ?_
                    rotate_left
                    ·intro w'
                     go_simp
                     with_reducible rfl
                    rotate_left
                    ·simp only [Act.put, List.setIfInBounds_toArray, List.set_cons_zero, List.set_cons_succ, i64_w, i32_w]
                     rfl
                    refine pure_ (i := 16) (N := some 90) (v := ?_) (a' := ?_) #[true, true, true, true, true, true, true, true, true, true, true, true, true, true, true, true, true, false, false, false, false, false, false, false, false, false] rfl rfl (any_of HT_.out (by kernel_rfl)) (fun _ _ _ h => h) (Or.inl ⟨by rfl, ?_⟩) ?_ ?_
                    rotate_left
                    ·intro w'
                     go_simp
                     with_reducible rfl
                    rotate_left
                    ·simp only [Act.put, List.setIfInBounds_toArray, List.set_cons_zero, List.set_cons_succ, i64_w, i32_w]
                     rfl
                    refine pure_ (i := 17) (N := some 91) (v := ?_) (a' := ?_) #[true, true, true, true, true, true, true, true, true, true, true, true, true, true, true, true, true, true, false, false, false, false, false, false, false, false] rfl rfl (any_of HT_.out (by kernel_rfl)) (fun _ _ _ h => h) (Or.inl ⟨by rfl, ?_⟩) ?_ ?_
                    rotate_left
                    ·intro w'
                     go_simp
                     with_reducible rfl
                    rotate_left
                    ·simp only [Act.put, List.setIfInBounds_toArray, List.set_cons_zero, List.set_cons_succ, i64_w, i32_w]
                     rfl
                    refine pure_ (i := 19) (N := some 93) (v := ?_) (a' := ?_) #[true, true, true, true, true, true, true, true, true, true, true, true, true, true, true, true, true, true, false, true, false, false, false, false, false, false] rfl rfl (any_of HT_.out (by kernel_rfl)) (fun _ _ _ h => h) (Or.inl ⟨by rfl, ?_⟩) ?_ ?_
                    rotate_left
                    ·intro w'
                     go_simp
                     with_reducible rfl
                    rotate_left
                    ·simp only [Act.put, List.setIfInBounds_toArray, List.set_cons_zero, List.set_cons_succ, i64_w, i32_w]
                     rfl
                    refine pure_ (i := 20) (N := some 94) (v := ?_) (a' := ?_) #[true, true, true, true, true, true, true, true, true, true, true, true, true, true, true, true, true, true, false, true, true, false, false, false, false, false] rfl rfl (any_of HT_.out (by kernel_rfl)) (fun _ _ _ h => h) (Or.inl ⟨by rfl, ?_⟩) ?_ ?_
                    rotate_left
                    ·intro w'
                     go_simp
                     with_reducible rfl
                    rotate_left
                    ·simp only [Act.put, List.setIfInBounds_toArray, List.set_cons_zero, List.set_cons_succ, i64_w, i32_w]
                     rfl
                    refine pure_ (i := 21) (N := some 95) (v := ?_) (a' := ?_) #[true, true, true, true, true, true, true, true, true, true, true, true, true, true, true, true, true, true, false, true, true, true, false, false, false, false] rfl rfl (any_of HT_.out (by kernel_rfl)) (fun _ _ _ h => h) (Or.inl ⟨by rfl, ?_⟩) ?_ ?_
                    rotate_left
                    ·intro w'
                     go_simp
                     with_reducible rfl
                    rotate_left
                    ·simp only [Act.put, List.setIfInBounds_toArray, List.set_cons_zero, List.set_cons_succ, i64_w, i32_w]
                     rfl
                    refine pure_ (i := 22) (N := some 96) (v := ?_) (a' := ?_) #[true, true, true, true, true, true, true, true, true, true, true, true, true, true, true, true, true, true, false, true, true, true, true, false, false, false] rfl rfl (any_of HT_.out (by kernel_rfl)) (fun _ _ _ h => h) (Or.inl ⟨by rfl, ?_⟩) ?_ ?_
                    rotate_left
                    ·intro w'
                     go_simp
                     with_reducible rfl
                    rotate_left
                    ·simp only [Act.put, List.setIfInBounds_toArray, List.set_cons_zero, List.set_cons_succ, i64_w, i32_w]
                     rfl
                    refine take_ (i := 18) (N := some 92) (v := ?_) (a' := ?_) #[true, true, true, true, true, true, true, true, true, true, true, true, true, true, true, true, true, true, true, true, true, true, true, false, false, false] rfl rfl (take_ofW HT_.out HW_.out (by kernel_rfl)) (fun _ _ _ h => h) (Or.inl ⟨by rfl, ?_⟩) hHeld ?_ ?_
                    rotate_left
                    ·rintro w' ⟨s0, s1, s2, s3, s4, s5, s6, s7, s8, s9, s10, s11⟩
                     go_simp
                     with_reducible rfl
                    rotate_left
                    ·simp only [Act.put, List.setIfInBounds_toArray, List.set_cons_zero, List.set_cons_succ, i64_w, i32_w]
                     rfl
                    refine take_ (i := 23) (N := some 97) (v := ?_) (a' := ?_) #[true, true, true, true, true, true, true, true, true, true, true, true, true, true, true, true, true, true, true, true, true, true, true, true, false, false] rfl rfl (take_ofW HT_.out HW_.out (by kernel_rfl)) (fun _ _ _ h => h) (Or.inl ⟨by rfl, ?_⟩) hHeld ?_ ?_
                    rotate_left
                    ·rintro w' ⟨s0, s1, s2, s3, s4, s5, s6, s7, s8, s9, s10, s11⟩
                     go_simp
                     with_reducible rfl
                    rotate_left
                    ·simp only [Act.put, List.setIfInBounds_toArray, List.set_cons_zero, List.set_cons_succ, i64_w, i32_w]
                     rfl
                    refine pure_ (i := 24) (N := some 98) (v := ?_) (a' := ?_) #[true, true, true, true, true, true, true, true, true, true, true, true, true, true, true, true, true, true, true, true, true, true, true, true, true, false] rfl rfl (any_of HT_.out (by kernel_rfl)) (fun _ _ _ h => h) (Or.inl ⟨by rfl, ?_⟩) ?_ ?_
                    rotate_left
                    ·intro w'
                     go_simp
                     with_reducible rfl
                    rotate_left
                    ·simp only [Act.put, List.setIfInBounds_toArray, List.set_cons_zero, List.set_cons_succ, i64_w, i32_w]
                     rfl
                    refine pure_ (i := 25) (N := some 99) (v := ?_) (a' := ?_) #[true, true, true, true, true, true, true, true, true, true, true, true, true, true, true, true, true, true, true, true, true, true, true, true, true, true] rfl rfl (any_of HT_.out (by kernel_rfl)) (fun _ _ _ h => h) (Or.inl ⟨by rfl, ?_⟩) ?_ ?_
                    rotate_left
                    ·intro w'
                     go_simp
                     with_reducible rfl
                    rotate_left
                    ·simp only [Act.put, List.setIfInBounds_toArray, List.set_cons_zero, List.set_cons_succ, i64_w, i32_w]
                     rfl
                    refine done_ (done_of HT_.out (by kernel_rfl)) ?_
                    try go_wp2
                    go_ret
                    exact ⟨by first | rfl | (simp [errW_none, errW_some] <;> rfl) | (simp [*, errW_none, errW_some] <;> rfl), by repeat (first | (with_reducible first | exact HB.out | apply below_alloc | apply pw_below_drewN | apply below_drew1 | refine below_set ?_ GE135.out | refine below_set ?_ GE136.out) | exact HB.out)⟩
                   ·rw [if_neg c74] at H
                    have c74b0 : (((rd_T31 t147 x71_4).f1) != ((rd_T31 t152 x71_4).f1)) = false := by simpa using c74
                    (try (have c74b1 : decide (((rd_T31 t147 x71_4).f1) = ((rd_T31 t152 x71_4).f1)) = true := by simpa using c74))
                    (try (have c74b2 : (((rd_T31 t147 x71_4).f1) == ((rd_T31 t152 x71_4).f1)) = true := by simpa using c74))
                    clear c74
                    have H' := Aside0.mk H
                    clear H
                    try go_wp2
                    have n0_ := Aside0.mk (Kd.R_drew HO_11.out)
                    have n1_ := Aside0.mk (Kd.R_drew HO_12.out)
                    have n2_ := Aside0.mk (blk_drew BK135.out)
                    have n3_ := Aside0.mk (blk_drew BK136.out)
                    have n4_ := Aside0.mk (below_drew1 HB.out)
                    clear HO_11
                    clear HO_12
                    clear BK135
                    clear BK136
                    clear HB
                    have HO_11 := n0_
                    have HO_12 := n1_
                    have BK135 := n2_
                    have BK136 := n3_
                    have HB := n4_
                    clear n0_ n1_ n2_ n3_ n4_
                    have p157 : 0 ≤ (x71_4 : Int) := of_decide_eq_true (by first | (with_reducible assumption) | assumption)
                    have q157 : x71_4 < (t147.length : Int) := of_decide_eq_true (by first | (with_reducible assumption) | assumption)
                    obtain ⟨ad157, e157, hx157_0, hx157_1, hx157_2⟩ := at_T31 (Kd.R_reads' HO_11.out).2.2 x71_4 p157 q157
                    cases e157
                    replace p157 := eq_true p157
                    replace q157 := eq_true q157
                    obtain ⟨Ao79, co79, eo79⟩ := Kd.R_slice HO_12.out
                    (first | subst eo79 | (injection eo79 with f1_ f2_ f3_; have f4_ := f1_.symm; have f5_ := f3_.symm; clear f1_ f2_ f3_; subst f4_; subst f5_))
                    have p160 : 0 ≤ (x71_4 : Int) := of_decide_eq_true (by first | (with_reducible assumption) | assumption)
                    have q160 : x71_4 < (t152.length : Int) := of_decide_eq_true (by first | (with_reducible assumption) | assumption)
                    obtain ⟨ad160, e160, hx160_0, hx160_1, hx160_2⟩ := at_T31 (Kd.R_reads' HO_12.out).2.2 x71_4 p160 q160
                    cases e160
                    replace p160 := eq_true p160
                    replace q160 := eq_true q160
                    have p161 : 0 ≤ (x71_4 : Int) := of_decide_eq_true (by first | (with_reducible assumption) | assumption)
                    have q161 : x71_4 < (t147.length : Int) := of_decide_eq_true (by first | (with_reducible assumption) | assumption)
                    obtain ⟨ad161, e161, hx161_0, hx161_1, hx161_2⟩ := at_T31 (Kd.R_reads' HO_11.out).2.2 x71_4 p161 q161
                    obtain rfl : ad157 = ad161 := (by injection e161)
                    replace p161 := eq_true p161
                    replace q161 := eq_true q161
                    have p162 : 0 ≤ (x71_4 : Int) := of_decide_eq_true (by first | (with_reducible assumption) | assumption)
                    have q162 : x71_4 < (t152.length : Int) := of_decide_eq_true (by first | (with_reducible assumption) | assumption)
                    obtain ⟨ad162, e162, hx162_0, hx162_1, hx162_2⟩ := at_T31 (Kd.R_reads' HO_12.out).2.2 x71_4 p162 q162
                    obtain rfl : ad160 = ad162 := (by injection e162)
                    replace p162 := eq_true p162
                    replace q162 := eq_true q162
                    refine start_ (n := 26) (S := fun w' => w'.cell? (ad157.add ((x71_4).toNat * 3)) = some (.int .i64 ((rd_T31 t147 x71_4).f0.f0)) ∧ w'.cell? ⟨(ad157.add ((x71_4).toNat * 3)).block, (ad157.add ((x71_4).toNat * 3)).off + 1, none⟩ = some (.int .i64 ((rd_T31 t147 x71_4).f0.f1)) ∧ w'.cell? ⟨(ad157.add ((x71_4).toNat * 3)).block, (ad157.add ((x71_4).toNat * 3)).off + 2, none⟩ = some (.bool ((rd_T31 t147 x71_4).f1)) ∧ w'.cell? (ad160.add ((x71_4).toNat * 3)) = some (.int .i64 ((rd_T31 t152 x71_4).f0.f0)) ∧ w'.cell? ⟨(ad160.add ((x71_4).toNat * 3)).block, (ad160.add ((x71_4).toNat * 3)).off + 1, none⟩ = some (.int .i64 ((rd_T31 t152 x71_4).f0.f1)) ∧ w'.cell? ⟨(ad160.add ((x71_4).toNat * 3)).block, (ad160.add ((x71_4).toNat * 3)).off + 2, none⟩ = some (.bool ((rd_T31 t152 x71_4).f1)) ∧ w'.cell? (ad157.add ((x71_4).toNat * 3)) = some (.int .i64 ((rd_T31 t147 x71_4).f0.f0)) ∧ w'.cell? ⟨(ad157.add ((x71_4).toNat * 3)).block, (ad157.add ((x71_4).toNat * 3)).off + 1, none⟩ = some (.int .i64 ((rd_T31 t147 x71_4).f0.f1)) ∧ w'.cell? ⟨(ad157.add ((x71_4).toNat * 3)).block, (ad157.add ((x71_4).toNat * 3)).off + 2, none⟩ = some (.bool ((rd_T31 t147 x71_4).f1)) ∧ w'.cell? (ad160.add ((x71_4).toNat * 3)) = some (.int .i64 ((rd_T31 t152 x71_4).f0.f0)) ∧ w'.cell? ⟨(ad160.add ((x71_4).toNat * 3)).block, (ad160.add ((x71_4).toNat * 3)).off + 1, none⟩ = some (.int .i64 ((rd_T31 t152 x71_4).f0.f1)) ∧ w'.cell? ⟨(ad160.add ((x71_4).toNat * 3)).block, (ad160.add ((x71_4).toNat * 3)).off + 2, none⟩ = some (.bool ((rd_T31 t152 x71_4).f1))) (ds := []) #[false, false, false, false, false, false, false, false, false, false, false, false, false, false, false, false, false, false, false, false, false, false, false, false, false, false] (by kernel_rfl) rfl rfl ⟨hx157_0, hx157_1, hx157_2, hx160_0, hx160_1, hx160_2, hx161_0, hx161_1, hx161_2, hx162_0, hx162_1, hx162_2⟩ (fun hHeld => ?_); refine with_tabW laws_FnRangesShift.tab20 laws_FnRangesShift.bits20 (fun HT_ HW_ => ?_)
                    generalize wr.drew = w78 at HO_11 HO_12 BK135 BK136 HB hx157_0 hx157_1 hx157_2 hx160_0 hx160_1 hx160_2 hx161_0 hx161_1 hx161_2 hx162_0 hx162_1 hx162_2 hHeld ⊢
                    refine pure_ (i := 0) (N := some 74) (v := ?_) (a' := ?_) #[true, false, false, false, false, false, false, false, false, false, false, false, false, false, false, false, false, false, false, false, false, false, false, false, false, false] rfl rfl (any_of HT_.out (by kernel_rfl)) (fun _ _ _ h => h) (Or.inl ⟨by rfl, ?_⟩) ?_ ?_
                    rotate_left
                    ·intro w'
                     go_simp
                     with_reducible rfl
                    rotate_left
                    ·simp only [Act.put, List.setIfInBounds_toArray, List.set_cons_zero, List.set_cons_succ, i64_w, i32_w]
                     rfl
                    refine pure_ (i := 1) (N := some 75) (v := ?_) (a' := ?_) #[true, true, false, false, false, false, false, false, false, false, false, false, false, false, false, false, false, false, false, false, false, false, false, false, false, false] rfl rfl (any_of HT_.out (by kernel_rfl)) (fun _ _ _ h => h) (Or.inl ⟨by rfl, ?_⟩) ?_ ?_
                    rotate_left
                    ·intro w'
                     go_simp
                     with_reducible rfl
                    rotate_left
                    ·simp only [Act.put, List.setIfInBounds_toArray, List.set_cons_zero, List.set_cons_succ, i64_w, i32_w]
                     rfl
                    refine pure_ (i := 2) (N := some 76) (v := ?_) (a' := ?_) #[true, true, true, false, false, false, false, false, false, false, false, false, false, false, false, false, false, false, false, false, false, false, false, false, false, false] rfl rfl (any_of HT_.out (by kernel_rfl)) (fun _ _ _ h => h) (Or.inl ⟨by rfl, ?_⟩) ?_ ?_
                    rotate_left
                    ·intro w'
                     go_simp
                     with_reducible rfl
                    rotate_left
                    ·simp only [Act.put, List.setIfInBounds_toArray, List.set_cons_zero, List.set_cons_succ, i64_w, i32_w]
                     rfl
                    refine pure_ (i := 3) (N := some 77) (v := ?_) (a' := ?_) #[true, true, true, true, false, false, false, false, false, false, false, false, false, false, false, false, false, false, false, false, false, false, false, false, false, false] rfl rfl (any_of HT_.out (by kernel_rfl)) (fun _ _ _ h => h) (Or.inl ⟨by rfl, ?_⟩) ?_ ?_
                    rotate_left
                    ·intro w'
                     go_simp
                     with_reducible rfl
                    rotate_left
                    ·simp only [Act.put, List.setIfInBounds_toArray, List.set_cons_zero, List.set_cons_succ, i64_w, i32_w]
                     rfl
                    refine pure_ (i := 4) (N := some 78) (v := ?_) (a' := ?_) #[true, true, true, true, true, false, false, false, false, false, false, false, false, false, false, false, false, false, false, false, false, false, false, false, false, false] rfl rfl (any_of HT_.out (by kernel_rfl)) (fun _ _ _ h => h) (Or.inl ⟨by rfl, ?_⟩) ?_ ?_
                    rotate_left
                    ·intro w'
                     go_simp
                     with_reducible rfl
                    rotate_left
                    ·simp only [Act.put, List.setIfInBounds_toArray, List.set_cons_zero, List.set_cons_succ, i64_w, i32_w]
                     rfl
                    refine pure_ (i := 7) (N := some 81) (v := ?_) (a' := ?_) #[true, true, true, true, true, false, false, true, false, false, false, false, false, false, false, false, false, false, false, false, false, false, false, false, false, false] rfl rfl (any_of HT_.out (by kernel_rfl)) (fun _ _ _ h => h) (Or.inl ⟨by rfl, ?_⟩) ?_ ?_
                    rotate_left
                    ·intro w'
                     go_simp
                     with_reducible rfl
                    rotate_left
                    ·simp only [Act.put, List.setIfInBounds_toArray, List.set_cons_zero, List.set_cons_succ, i64_w, i32_w]
                     rfl
                    refine pure_ (i := 8) (N := some 82) (v := ?_) (a' := ?_) #[true, true, true, true, true, false, false, true, true, false, false, false, false, false, false, false, false, false, false, false, false, false, false, false, false, false] rfl rfl (any_of HT_.out (by kernel_rfl)) (fun _ _ _ h => h) (Or.inl ⟨by rfl, ?_⟩) ?_ ?_
                    rotate_left
                    ·intro w'
                     go_simp
                     with_reducible rfl
                    rotate_left
                    ·simp only [Act.put, List.setIfInBounds_toArray, List.set_cons_zero, List.set_cons_succ, i64_w, i32_w]
                     rfl
                    refine pure_ (i := 9) (N := some 83) (v := ?_) (a' := ?_) #[true, true, true, true, true, false, false, true, true, true, false, false, false, false, false, false, false, false, false, false, false, false, false, false, false, false] rfl rfl (any_of HT_.out (by kernel_rfl)) (fun _ _ _ h => h) (Or.inl ⟨by rfl, ?_⟩) ?_ ?_
                    rotate_left
                    ·intro w'
                     go_simp
                     with_reducible rfl
                    rotate_left
                    ·simp only [Act.put, List.setIfInBounds_toArray, List.set_cons_zero, List.set_cons_succ, i64_w, i32_w]
                     rfl
                    refine pure_ (i := 10) (N := some 84) (v := ?_) (a' := ?_) #[true, true, true, true, true, false, false, true, true, true, true, false, false, false, false, false, false, false, false, false, false, false, false, false, false, false] rfl rfl (any_of HT_.out (by kernel_rfl)) (fun _ _ _ h => h) (Or.inl ⟨by rfl, ?_⟩) ?_ ?_
                    rotate_left
                    ·intro w'
                     go_simp
                     with_reducible rfl
                    rotate_left
                    ·simp only [Act.put, List.setIfInBounds_toArray, List.set_cons_zero, List.set_cons_succ, i64_w, i32_w]
                     rfl
                    refine take_ (i := 5) (N := some 79) (v := ?_) (a' := ?_) #[true, true, true, true, true, true, false, true, true, true, true, false, false, false, false, false, false, false, false, false, false, false, false, false, false, false] rfl rfl (take_ofW HT_.out HW_.out (by kernel_rfl)) (fun _ _ _ h => h) (Or.inl ⟨by rfl, ?_⟩) hHeld ?_ ?_
                    rotate_left
                    ·rintro w' ⟨s0, s1, s2, s3, s4, s5, s6, s7, s8, s9, s10, s11⟩
                     go_simp
                     with_reducible rfl
                    rotate_left
                    ·simp only [Act.put, List.setIfInBounds_toArray, List.set_cons_zero, List.set_cons_succ, i64_w, i32_w]
                     rfl
                    refine take_ (i := 11) (N := some 85) (v := ?_) (a' := ?_) #[true, true, true, true, true, true, false, true, true, true, true, true, false, false, false, false, false, false, false, false, false, false, false, false, false, false] rfl rfl (take_ofW HT_.out HW_.out (by kernel_rfl)) (fun _ _ _ h => h) (Or.inl ⟨by rfl, ?_⟩) hHeld ?_ ?_
                    rotate_left
                    ·rintro w' ⟨s0, s1, s2, s3, s4, s5, s6, s7, s8, s9, s10, s11⟩
                     go_simp
                     with_reducible rfl
                    rotate_left
                    ·simp only [Act.put, List.setIfInBounds_toArray, List.set_cons_zero, List.set_cons_succ, i64_w, i32_w]
                     rfl
                    refine one_ (i := 6) (N := some 80) #[true, true, true, true, true, true, true, true, true, true, true, true, false, false, false, false, false, false, false, false, false, false, false, false, false, false] rfl rfl (one_of HT_.out (by kernel_rfl)) (by decide) (fun K hK => ?_)
                    refine goesD_ Try.func16 (by kernel_rfl) rfl #[.agg #[.int .i64 ((rd_T31 t147 x71_4).f0.f0), .int .i64 ((rd_T31 t147 x71_4).f0.f1)], .pointer (some ⟨gb136, 0, none⟩)] (by rfl) rfl rfl rfl (by (try simp only [List.map_toArray, List.map_cons, List.map_nil]); first | done | rfl | (simp only [List.length_drop, List.length_take]; rfl)) ?_
                    with_reducible refine (rangesShift1.calls gb136 ((rd_T31 t147 x71_4).f0.f0) ((rd_T31 t147 x71_4).f0.f1) a2 t158 t159 _ ((blk_cell (g := gb136) (t := 3) (cs := #[.int .i64 a2]) (by (with_reducible repeat (first | refine blk_drewN ?_ _ | refine blk_drew ?_ | refine blk_alloc ?_ _)); exact BK136.out) 0).trans rfl) A68.out).mono ?_
                    rintro e w80 ⟨rfl, hb⟩
                    have HS0_ := (hb.cell (World.block_lt_of_cell? _ _ (hHeld.1))).trans (hHeld.1)
                    have HS1_ := (hb.cell (World.block_lt_of_cell? _ _ (hHeld.2.1))).trans (hHeld.2.1)
                    have HS2_ := (hb.cell (World.block_lt_of_cell? _ _ (hHeld.2.2.1))).trans (hHeld.2.2.1)
                    have HS3_ := (hb.cell (World.block_lt_of_cell? _ _ (hHeld.2.2.2.1))).trans (hHeld.2.2.2.1)
                    have HS4_ := (hb.cell (World.block_lt_of_cell? _ _ (hHeld.2.2.2.2.1))).trans (hHeld.2.2.2.2.1)
                    have HS5_ := (hb.cell (World.block_lt_of_cell? _ _ (hHeld.2.2.2.2.2.1))).trans (hHeld.2.2.2.2.2.1)
                    have HS6_ := (hb.cell (World.block_lt_of_cell? _ _ (hHeld.2.2.2.2.2.2.1))).trans (hHeld.2.2.2.2.2.2.1)
                    have HS7_ := (hb.cell (World.block_lt_of_cell? _ _ (hHeld.2.2.2.2.2.2.2.1))).trans (hHeld.2.2.2.2.2.2.2.1)
                    have HS8_ := (hb.cell (World.block_lt_of_cell? _ _ (hHeld.2.2.2.2.2.2.2.2.1))).trans (hHeld.2.2.2.2.2.2.2.2.1)
                    have HS9_ := (hb.cell (World.block_lt_of_cell? _ _ (hHeld.2.2.2.2.2.2.2.2.2.1))).trans (hHeld.2.2.2.2.2.2.2.2.2.1)
                    have HS10_ := (hb.cell (World.block_lt_of_cell? _ _ (hHeld.2.2.2.2.2.2.2.2.2.2.1))).trans (hHeld.2.2.2.2.2.2.2.2.2.2.1)
                    have HS11_ := (hb.cell (World.block_lt_of_cell? _ _ (hHeld.2.2.2.2.2.2.2.2.2.2.2))).trans (hHeld.2.2.2.2.2.2.2.2.2.2.2)
                    refine ⟨_, rfl, ?_⟩
                    have n0_ := Aside0.mk (Kd.R_below (by (with_reducible repeat (first | apply Kd.R_alloc | apply Kd.R_drewN | apply Kd.R_drew)); exact HO_11.out) hb)
                    have n1_ := Aside0.mk (Kd.R_below (by (with_reducible repeat (first | apply Kd.R_alloc | apply Kd.R_drewN | apply Kd.R_drew)); exact HO_12.out) hb)
                    have n2_ := Aside0.mk (blk_below (g := gb135) (o := .cells #[.int .i64 a1_0, .int .i64 a1_1] 24 (0, 0)) (by (with_reducible repeat (first | refine blk_drewN ?_ _ | refine blk_drew ?_ | refine blk_alloc ?_ _)); exact BK135.out) hb)
                    have n3_ := Aside0.mk (blk_below (g := gb136) (o := .cells #[.int .i64 a2] 3 (0, 0)) (by (with_reducible repeat (first | refine blk_drewN ?_ _ | refine blk_drew ?_ | refine blk_alloc ?_ _)); exact BK136.out) hb)
                    have n4_ := Aside0.mk (below_step (by repeat (first | (with_reducible first | exact HB.out | apply below_alloc | apply pw_below_drewN | apply below_drew1 | refine below_set ?_ GE135.out | refine below_set ?_ GE136.out) | exact HB.out)) hb)
                    clear HO_11
                    clear HO_12
                    clear BK135
                    clear BK136
                    clear HB
                    have HO_11 := n0_
                    have HO_12 := n1_
                    have BK135 := n2_
                    have BK136 := n3_
                    have HB := n4_
                    clear n0_ n1_ n2_ n3_ n4_
                    (try clear hb)
                    (try clear hb2)
                    (try clear hk)
                    (try clear hi)
                    refine hK.out _ _ ⟨HS0_, HS1_, HS2_, HS3_, HS4_, HS5_, HS6_, HS7_, HS8_, HS9_, HS10_, HS11_⟩ (fun hHeld => ?_)
                    clear hK K
                    refine norm_ (a' := ?_) ?_ ?_
                    rotate_left
                    ·show Act.put _ (some 80) _ = _
                     simp only [Act.put, List.setIfInBounds_toArray, List.set_cons_zero, List.set_cons_succ, i64_w, i32_w]
                     rfl
                    refine pure_ (i := 12) (N := some 86) (v := ?_) (a' := ?_) #[true, true, true, true, true, true, true, true, true, true, true, true, true, false, false, false, false, false, false, false, false, false, false, false, false, false] rfl rfl (any_of HT_.out (by kernel_rfl)) (fun _ _ _ h => h) (Or.inl ⟨by rfl, ?_⟩) ?_ ?_
                    rotate_left
                    ·intro w'
                     go_simp
                     with_reducible rfl
                    rotate_left
                    ·simp only [Act.put, List.setIfInBounds_toArray, List.set_cons_zero, List.set_cons_succ, i64_w, i32_w]
                     rfl
                    refine pure_ (i := 13) (N := some 87) (v := ?_) (a' := ?_) #[true, true, true, true, true, true, true, true, true, true, true, true, true, true, false, false, false, false, false, false, false, false, false, false, false, false] rfl rfl (any_of HT_.out (by kernel_rfl)) (fun _ _ _ h => h) (Or.inl ⟨by rfl, ?_⟩) ?_ ?_
                    rotate_left
                    ·intro w'
                     go_simp
                     with_reducible rfl
                    rotate_left
                    ·simp only [Act.put, List.setIfInBounds_toArray, List.set_cons_zero, List.set_cons_succ, i64_w, i32_w]
                     rfl
                    refine pure_ (i := 14) (N := some 88) (v := ?_) (a' := ?_) #[true, true, true, true, true, true, true, true, true, true, true, true, true, true, true, false, false, false, false, false, false, false, false, false, false, false] rfl rfl (any_of HT_.out (by kernel_rfl)) (fun _ _ _ h => h) (Or.inl ⟨by rfl, ?_⟩) ?_ ?_
                    rotate_left
                    ·intro w'
                     go_simp
                     with_reducible rfl
                    rotate_left
                    ·simp only [Act.put, List.setIfInBounds_toArray, List.set_cons_zero, List.set_cons_succ, i64_w, i32_w]
                     rfl
                    refine pure_ (i := 15) (N := some 89) (v := ?_) (a' := ?_) #[true, true, true, true, true, true, true, true, true, true, true, true, true, true, true, true, false, false, false, false, false, false, false, false, false, false] rfl rfl (any_of HT_.out (by kernel_rfl)) (fun _ _ _ h => h) (Or.inl ⟨by rfl, ?_⟩) ?_ ?_
                    rotate_left
                    ·intro w'
                     go_simp
                     with_reducible rfl
                    rotate_left
                    ·simp only [Act.put, List.setIfInBounds_toArray, List.set_cons_zero, List.set_cons_succ, i64_w, i32_w]
                     rfl
                    refine pure_ (i := 16) (N := some 90) (v := ?_) (a' := ?_) #[true, true, true, true, true, true, true, true, true, true, true, true, true, true, true, true, true, false, false, false, false, false, false, false, false, false] rfl rfl (any_of HT_.out (by kernel_rfl)) (fun _ _ _ h => h) (Or.inl ⟨by rfl, ?_⟩) ?_ ?_
                    rotate_left
                    ·intro w'
                     go_simp
                     with_reducible rfl
                    rotate_left
                    ·simp only [Act.put, List.setIfInBounds_toArray, List.set_cons_zero, List.set_cons_succ, i64_w, i32_w]
                     rfl
                    refine pure_ (i := 17) (N := some 91) (v := ?_) (a' := ?_) #[true, true, true, true, true, true, true, true, true, true, true, true, true, true, true, true, true, true, false, false, false, false, false, false, false, false] rfl rfl (any_of HT_.out (by kernel_rfl)) (fun _ _ _ h => h) (Or.inl ⟨by rfl, ?_⟩) ?_ ?_
                    rotate_left
                    ·intro w'
                     go_simp
                     with_reducible rfl
                    rotate_left
                    ·simp only [Act.put, List.setIfInBounds_toArray, List.set_cons_zero, List.set_cons_succ, i64_w, i32_w]
                     rfl
                    refine pure_ (i := 19) (N := some 93) (v := ?_) (a' := ?_) #[true, true, true, true, true, true, true, true, true, true, true, true, true, true, true, true, true, true, false, true, false, false, false, false, false, false] rfl rfl (any_of HT_.out (by kernel_rfl)) (fun _ _ _ h => h) (Or.inl ⟨by rfl, ?_⟩) ?_ ?_
                    rotate_left
                    ·intro w'
                     go_simp
                     with_reducible rfl
                    rotate_left
                    ·simp only [Act.put, List.setIfInBounds_toArray, List.set_cons_zero, List.set_cons_succ, i64_w, i32_w]
                     rfl
                    refine pure_ (i := 20) (N := some 94) (v := ?_) (a' := ?_) #[true, true, true, true, true, true, true, true, true, true, true, true, true, true, true, true, true, true, false, true, true, false, false, false, false, false] rfl rfl (any_of HT_.out (by kernel_rfl)) (fun _ _ _ h => h) (Or.inl ⟨by rfl, ?_⟩) ?_ ?_
                    rotate_left
                    ·intro w'
                     go_simp
                     with_reducible rfl
                    rotate_left
                    ·simp only [Act.put, List.setIfInBounds_toArray, List.set_cons_zero, List.set_cons_succ, i64_w, i32_w]
                     rfl
                    refine pure_ (i := 21) (N := some 95) (v := ?_) (a' := ?_) #[true, true, true, true, true, true, true, true, true, true, true, true, true, true, true, true, true, true, false, true, true, true, false, false, false, false] rfl rfl (any_of HT_.out (by kernel_rfl)) (fun _ _ _ h => h) (Or.inl ⟨by rfl, ?_⟩) ?_ ?_
                    rotate_left
                    ·intro w'
                     go_simp
                     with_reducible rfl
                    rotate_left
                    ·simp only [Act.put, List.setIfInBounds_toArray, List.set_cons_zero, List.set_cons_succ, i64_w, i32_w]
                     rfl
                    refine pure_ (i := 22) (N := some 96) (v := ?_) (a' := ?_) #[true, true, true, true, true, true, true, true, true, true, true, true, true, true, true, true, true, true, false, true, true, true, true, false, false, false] rfl rfl (any_of HT_.out (by kernel_rfl)) (fun _ _ _ h => h) (Or.inl ⟨by rfl, ?_⟩) ?_ ?_
                    rotate_left
                    ·intro w'
                     go_simp
                     with_reducible rfl
                    rotate_left
                    ·simp only [Act.put, List.setIfInBounds_toArray, List.set_cons_zero, List.set_cons_succ, i64_w, i32_w]
                     rfl
                    refine take_ (i := 18) (N := some 92) (v := ?_) (a' := ?_) #[true, true, true, true, true, true, true, true, true, true, true, true, true, true, true, true, true, true, true, true, true, true, true, false, false, false] rfl rfl (take_ofW HT_.out HW_.out (by kernel_rfl)) (fun _ _ _ h => h) (Or.inl ⟨by rfl, ?_⟩) hHeld ?_ ?_
                    rotate_left
                    ·rintro w' ⟨s0, s1, s2, s3, s4, s5, s6, s7, s8, s9, s10, s11⟩
                     go_simp
                     with_reducible rfl
                    rotate_left
                    ·simp only [Act.put, List.setIfInBounds_toArray, List.set_cons_zero, List.set_cons_succ, i64_w, i32_w]
                     rfl
                    refine take_ (i := 23) (N := some 97) (v := ?_) (a' := ?_) #[true, true, true, true, true, true, true, true, true, true, true, true, true, true, true, true, true, true, true, true, true, true, true, true, false, false] rfl rfl (take_ofW HT_.out HW_.out (by kernel_rfl)) (fun _ _ _ h => h) (Or.inl ⟨by rfl, ?_⟩) hHeld ?_ ?_
                    rotate_left
                    ·rintro w' ⟨s0, s1, s2, s3, s4, s5, s6, s7, s8, s9, s10, s11⟩
                     go_simp
                     with_reducible rfl
                    rotate_left
                    ·simp only [Act.put, List.setIfInBounds_toArray, List.set_cons_zero, List.set_cons_succ, i64_w, i32_w]
                     rfl
                    refine pure_ (i := 24) (N := some 98) (v := ?_) (a' := ?_) #[true, true, true, true, true, true, true, true, true, true, true, true, true, true, true, true, true, true, true, true, true, true, true, true, true, false] rfl rfl (any_of HT_.out (by kernel_rfl)) (fun _ _ _ h => h) (Or.inl ⟨by rfl, ?_⟩) ?_ ?_
                    rotate_left
                    ·intro w'
                     go_simp
                     with_reducible rfl
                    rotate_left
                    ·simp only [Act.put, List.setIfInBounds_toArray, List.set_cons_zero, List.set_cons_succ, i64_w, i32_w]
                     rfl
                    refine pure_ (i := 25) (N := some 99) (v := ?_) (a' := ?_) #[true, true, true, true, true, true, true, true, true, true, true, true, true, true, true, true, true, true, true, true, true, true, true, true, true, true] rfl rfl (any_of HT_.out (by kernel_rfl)) (fun _ _ _ h => h) (Or.inl ⟨by rfl, ?_⟩) ?_ ?_
                    rotate_left
                    ·intro w'
                     go_simp
                     with_reducible rfl
                    rotate_left
                    ·simp only [Act.put, List.setIfInBounds_toArray, List.set_cons_zero, List.set_cons_succ, i64_w, i32_w]
                     rfl
                    refine done_ (done_of HT_.out (by kernel_rfl)) ?_
                    try go_wp2
                    go_roundg k4
                    case measure => have := HJ6.out; have := HK2.out; have := HJ47.out; have := HK4.out; omega
                    case rel => exact ⟨(wrap64 (x71_4 + 1)), (by first | rfl | (simp; done) | (simp [*]; done)), H', ⟨by have := HJ6.out; have := HK2.out; have := HJ47.out; have := HK4.out; omega⟩, ⟨by (with_reducible repeat (first | apply Kd.R_alloc | apply Kd.R_drewN | apply Kd.R_drew)); exact HO_11.out⟩, ⟨by (with_reducible repeat (first | apply Kd.R_alloc | apply Kd.R_drewN | apply Kd.R_drew)); exact HO_12.out⟩, ⟨by (with_reducible repeat (first | refine blk_drewN ?_ _ | refine blk_drew ?_ | refine blk_alloc ?_ _)); exact BK135.out⟩, ⟨by (with_reducible repeat (first | refine blk_drewN ?_ _ | refine blk_drew ?_ | refine blk_alloc ?_ _)); exact BK136.out⟩, ⟨by repeat (first | (with_reducible first | exact HB.out | apply below_alloc | apply pw_below_drewN | apply below_drew1 | refine below_set ?_ GE135.out | refine below_set ?_ GE136.out) | exact HB.out)⟩⟩
                 ·rw [if_neg c69] at H
                  exact absurd H (by simp)
                ·rw [if_neg c67] at H
                 exact absurd H (by simp)
               ·rw [if_neg c66] at H
                exact absurd H (by simp)
              ·rw [if_neg c65] at H
               have c65b0 : decide (x71_4 < (t147.length : Int)) = false := decide_eq_false c65
               clear c65
               obtain rfl := Option.some.inj H
               go_wp2
               go_ret
               exact ⟨by first | rfl | (simp [errW_none, errW_some] <;> rfl) | (simp [*, errW_none, errW_some] <;> rfl), by repeat (first | (with_reducible first | exact HB.out | apply below_alloc | apply pw_below_drewN | apply below_drew1 | refine below_set ?_ GE135.out | refine below_set ?_ GE136.out) | exact HB.out)⟩
     ·replace c32 := Bool.eq_false_iff.mpr c32
      subst c32
      have H1 : (some false) = some r := by rw [if_neg (show ¬ (false = true) by decide)] at H; exact H
      clear H
      have H := H1
      clear H1
      obtain rfl := Option.some.inj H
      go_wp2_with (first | ((with_reducible refine gate_dst (N := 33) rfl ?_); refine goesL_ (some 33) rfl rfl Try.func13 (by kernel_rfl) rfl #[] rfl (by (try simp only [List.map_toArray, List.map_cons, List.map_nil]); first | done | rfl | (simp only [List.length_drop, List.length_take]; rfl)) ?_; (with_reducible refine (laws_rangeAwake.calls kj6  false _ A31.out).mono ?_); rintro e w81 ⟨rfl, hb⟩; refine ⟨_, rfl, ?_⟩; have n0_ := Aside0.mk (blk_below (g := gb135) (o := .cells #[.int .i64 a1_0, .int .i64 a1_1] 24 (0, 0)) (by (with_reducible repeat (first | refine blk_drewN ?_ _ | refine blk_drew ?_ | refine blk_alloc ?_ _)); exact BK135.out) hb); have n1_ := Aside0.mk (blk_below (g := gb136) (o := .cells #[.int .i64 a2] 3 (0, 0)) (by (with_reducible repeat (first | refine blk_drewN ?_ _ | refine blk_drew ?_ | refine blk_alloc ?_ _)); exact BK136.out) hb); have n2_ := Aside0.mk (below_step (by repeat (first | (with_reducible first | exact HB.out | apply below_alloc | apply pw_below_drewN | apply below_drew1 | refine below_set ?_ GE135.out | refine below_set ?_ GE136.out) | exact HB.out)) hb); clear BK135; clear BK136; clear HB; have BK135 := n0_; have BK136 := n1_; have HB := n2_; clear n0_ n1_ n2_; (try clear hb); (try clear hb2); (try clear hk); (try clear hi)))
      go_ret
      exact ⟨by first | rfl | (simp [errW_none, errW_some] <;> rfl) | (simp [*, errW_none, errW_some] <;> rfl), by repeat (first | (with_reducible first | exact HB.out | apply below_alloc | apply pw_below_drewN | apply below_drew1 | refine below_set ?_ GE135.out | refine below_set ?_ GE136.out) | exact HB.out)⟩
def laws_FnRangesShift.Pure : Prop := ∀ (l0 : List (S24)) (a1_0 : Int) (a1_1 : Int) (a2 : Int), l0.length ≤ maxLen → (∀ y ∈ l0, (((Lit.int .i64 y.f0).wf = true) ∧ ((Lit.int .i64 y.f1).wf = true))) → (((Lit.int .i64 a1_0).wf = true) ∧ ((Lit.int .i64 a1_1).wf = true)) → (Lit.int .i64 a2).wf = true → ∃ k, laws_FnRangesShift.f k l0 a1_0 a1_1 a2 = some true
theorem laws_FnRangesShift.walk (P : laws_FnRangesShift.Pure) (w : World) (A0 : Option Addr) (c0 : Nat) (l0 : List (S24)) (hr0 : Kd.C k24 w A0 l0.length l0) (hc0 : l0.length ≤ c0) (a1_0 : Int) (a1_1 : Int) (a2 : Int) (b0_0 : l0.length ≤ maxLen) (b0_1 : (∀ y ∈ l0, (((Lit.int .i64 y.f0).wf = true) ∧ ((Lit.int .i64 y.f1).wf = true)))) (b1_0 : (((Lit.int .i64 a1_0).wf = true) ∧ ((Lit.int .i64 a1_1).wf = true))) (b2_0 : (Lit.int .i64 a2).wf = true) :
  Calls Try.prog 4 #[.slice A0 l0.length c0, .agg #[.int .i64 a1_0, .int .i64 a1_1], .int .i64 a2] w fun e w' => e = .returned (.bool true) ∧ Below w.heap.size w w' := by
 obtain ⟨k, h⟩ := P l0 a1_0 a1_1 a2 b0_0 b0_1 b1_0 b2_0
 refine (laws_FnRangesShift.calls k A0 c0 l0 a1_0 a1_1 a2 true w hr0 hc0   h).mono ?_
 rintro e w' ⟨rfl, hd⟩
 exact ⟨rfl, hd⟩

end Go.Proofs.Ytmkhkkfliecfdaa.PV
