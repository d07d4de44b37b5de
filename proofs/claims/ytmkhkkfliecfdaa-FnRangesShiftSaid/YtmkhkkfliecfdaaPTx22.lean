-- Written by a program of this session. -- slim
import Derived.Test.YtmkhkkfliecfdaaPTx20
namespace Go.Proofs.Ytmkhkkfliecfdaa.PT
open Go.RowKit Go.Proofs.YtmkhkkfliecfdaaW.PrintWords Go.Proofs.YtmkhkkfliecfdaaW.PrintLast Go.Proofs.Ytmkhkkfliecfdaa.Given Go.Proofs.Ytmkhkkfliecfdaa.Mm
attribute [local go_sem] mx_go mn_go
set_option linter.unusedVariables false
set_option linter.unusedSimpArgs false

attribute [local go_sem high] idx70
/-! ### spec_rangeMarks: function 36 -/
mutual
def spec_rangeMarks.l0 : Nat → List Int → List (S24) → Int → Int → Option (List Int)
 | 0, _, _, _, _ => none
 | k + 1, x3, x10, x11, x12 => if x12 < x11 then (if 0 ≤ x12 then (if x12 < (x10.length : Int) then (if ((rd_T24 x10 x12).f1) < 1 then (spec_rangeMarks.l0 k x3 x10 x11 (wrap64 (x12 + 1))) else (spec_rangeMarks.l1 k x3 x10 x11 x12 0 ((rd_T24 x10 x12).f0) (wrap64 (((rd_T24 x10 x12).f0) + ((rd_T24 x10 x12).f1))))) else (none)) else (none)) else (some x3)
def spec_rangeMarks.l1 : Nat → List Int → List (S24) → Int → Int → Int → Int → Int → Option (List Int)
 | 0, _, _, _, _, _, _, _ => none
 | k + 1, x3, x10, x11, x12, x27, x9000208, x9000209 => if x27 < 2 then (if 0 ≤ x27 then (spec_rangeMarks.l2 k x3 (pick2 x27 x9000208 x9000209) 0 x10 x11 x12 x27 x9000208 x9000209) else (none)) else (spec_rangeMarks.l0 k x3 x10 x11 (wrap64 (x12 + 1)))
def spec_rangeMarks.l2 : Nat → List Int → Int → Int → List (S24) → Int → Int → Int → Int → Int → Option (List Int)
 | 0, _, _, _, _, _, _, _, _, _ => none
 | k + 1, x3, x7, x8, x10, x11, x12, x27, x9000208, x9000209 => if x8 < (x3.length : Int) then (if 0 ≤ x8 then (if (rd x3 x8) < x7 then (spec_rangeMarks.l2 k x3 x7 (wrap64 (x8 + 1)) x10 x11 x12 x27 x9000208 x9000209) else (if (rd x3 x8) = x7 then (spec_rangeMarks.l1 k x3 x10 x11 x12 (wrap64 (x27 + 1)) x9000208 x9000209) else ((some (([] : List Int) : List Int)).bind fun y198 => (if x8 ≤ (x3.length : Int) then ((some (x3.take (x8 : Int).toNat : List Int)).bind fun y201 => (if y198.length + y201.length < 17592186044416 then ((some (y198 ++ y201 : List Int)).bind fun y205 => (if y205.length < 17592186044416 then ((some (y205 ++ [x7] : List Int)).bind fun y208 => ((some (x3.drop (x8 : Int).toNat : List Int)).bind fun y211 => (if y208.length + y211.length < 17592186044416 then (spec_rangeMarks.l1 k (y208 ++ y211) x10 x11 x12 (wrap64 (x27 + 1)) x9000208 x9000209) else (none)))) else (none))) else (none))) else (none))))) else (none)) else ((some (([] : List Int) : List Int)).bind fun y218 => (if 0 ≤ x8 then (if x8 ≤ (x3.length : Int) then ((some (x3.take (x8 : Int).toNat : List Int)).bind fun y221 => (if y218.length + y221.length < 17592186044416 then ((some (y218 ++ y221 : List Int)).bind fun y225 => (if y225.length < 17592186044416 then ((some (y225 ++ [x7] : List Int)).bind fun y228 => ((some (x3.drop (x8 : Int).toNat : List Int)).bind fun y231 => (if y228.length + y231.length < 17592186044416 then (spec_rangeMarks.l1 k (y228 ++ y231) x10 x11 x12 (wrap64 (x27 + 1)) x9000208 x9000209) else (none)))) else (none))) else (none))) else (none)) else (none)))
end
def spec_rangeMarks.f (k : Nat) (l0 : List (S24)) : Option (List Int) := spec_rangeMarks.l0 k ([] : List Int) l0 (l0.length : Int) 0
theorem spec_rangeMarks.mono_l : ∀ k, (∀ y0 y1 y2 y3, LeO (spec_rangeMarks.l0 k y0 y1 y2 y3) (spec_rangeMarks.l0 (k + 1) y0 y1 y2 y3)) ∧ (∀ y0 y1 y2 y3 y4 y5 y6, LeO (spec_rangeMarks.l1 k y0 y1 y2 y3 y4 y5 y6) (spec_rangeMarks.l1 (k + 1) y0 y1 y2 y3 y4 y5 y6)) ∧ (∀ y0 y1 y2 y3 y4 y5 y6 y7 y8, LeO (spec_rangeMarks.l2 k y0 y1 y2 y3 y4 y5 y6 y7 y8) (spec_rangeMarks.l2 (k + 1) y0 y1 y2 y3 y4 y5 y6 y7 y8))
 | 0 => ⟨fun _ _ _ _ r h => by simp [spec_rangeMarks.l0] at h, fun _ _ _ _ _ _ _ r h => by simp [spec_rangeMarks.l1] at h, fun _ _ _ _ _ _ _ _ _ r h => by simp [spec_rangeMarks.l2] at h⟩
 | k + 1 => by
  obtain ⟨ih0, ih1, ih2⟩ := spec_rangeMarks.mono_l k
  refine ⟨?_, ?_, ?_⟩
  ·intro y0 y1 y2 y3
   unfold spec_rangeMarks.l0
   repeat' first
   | (with_reducible exact ih0 _ _ _ _)
   | (with_reducible exact ih1 _ _ _ _ _ _ _)
   | (with_reducible exact ih2 _ _ _ _ _ _ _ _ _)
   | (with_reducible exact LeO.refl _)
   | (with_reducible exact LeO.none _)
   | (with_reducible refine LeO.ite ?_ ?_)
   | (with_reducible refine LeO.bind ?_ (fun _ => ?_))
   | exact ih0 _ _ _ _
   | exact ih1 _ _ _ _ _ _ _
   | exact ih2 _ _ _ _ _ _ _ _ _
   | exact LeO.none _
   | refine LeO.ite ?_ ?_
   | refine LeO.bind ?_ (fun _ => ?_)
  ·intro y0 y1 y2 y3 y4 y5 y6
   unfold spec_rangeMarks.l1
   repeat' first
   | (with_reducible exact ih0 _ _ _ _)
   | (with_reducible exact ih1 _ _ _ _ _ _ _)
   | (with_reducible exact ih2 _ _ _ _ _ _ _ _ _)
   | (with_reducible exact LeO.refl _)
   | (with_reducible exact LeO.none _)
   | (with_reducible refine LeO.ite ?_ ?_)
   | (with_reducible refine LeO.bind ?_ (fun _ => ?_))
   | exact ih0 _ _ _ _
   | exact ih1 _ _ _ _ _ _ _
   | exact ih2 _ _ _ _ _ _ _ _ _
   | exact LeO.none _
   | refine LeO.ite ?_ ?_
   | refine LeO.bind ?_ (fun _ => ?_)
  ·intro y0 y1 y2 y3 y4 y5 y6 y7 y8
   unfold spec_rangeMarks.l2
   repeat' first
   | (with_reducible exact ih0 _ _ _ _)
   | (with_reducible exact ih1 _ _ _ _ _ _ _)
   | (with_reducible exact ih2 _ _ _ _ _ _ _ _ _)
   | (with_reducible exact LeO.refl _)
   | (with_reducible exact LeO.none _)
   | (with_reducible refine LeO.ite ?_ ?_)
   | (with_reducible refine LeO.bind ?_ (fun _ => ?_))
   | exact ih0 _ _ _ _
   | exact ih1 _ _ _ _ _ _ _
   | exact ih2 _ _ _ _ _ _ _ _ _
   | exact LeO.none _
   | refine LeO.ite ?_ ?_
   | refine LeO.bind ?_ (fun _ => ?_)
theorem spec_rangeMarks.mono : ∀ a0 k, LeO (spec_rangeMarks.f k a0) (spec_rangeMarks.f (k + 1) a0) := by
 intro a0 k
 obtain ⟨ih0, ih1, ih2⟩ := spec_rangeMarks.mono_l k
 unfold spec_rangeMarks.f
 repeat' first
   | (with_reducible exact ih0 _ _ _ _)
   | (with_reducible exact ih1 _ _ _ _ _ _ _)
   | (with_reducible exact ih2 _ _ _ _ _ _ _ _ _)
   | (with_reducible exact LeO.refl _)
   | (with_reducible exact LeO.none _)
   | (with_reducible refine LeO.ite ?_ ?_)
   | (with_reducible refine LeO.bind ?_ (fun _ => ?_))
   | exact ih0 _ _ _ _
   | exact ih1 _ _ _ _ _ _ _
   | exact ih2 _ _ _ _ _ _ _ _ _
   | exact LeO.none _
   | refine LeO.ite ?_ ?_
   | refine LeO.bind ?_ (fun _ => ?_)
def spec_rangeMarks.T14 : Bool × List (List Nat × List Nat) := (true, [([], []), ([], []), ([1], [1]), ([0, 2], [0, 2]), ([], []), ([], []), ([4, 5], [4, 5]), ([3, 6, 3], [3, 6]), ([7, 7, 0, 1, 2, 3, 4, 5, 6, 7], [4, 7])])
def spec_rangeMarks.B14 : List Nat := [0, 0, 2, 7, 0, 0, 48, 127, 255]
theorem spec_rangeMarks.tab14 : rtab .any (opsOf Try.f36 14) = spec_rangeMarks.T14 := by kernel_rfl
theorem spec_rangeMarks.bits14 : waitsOk spec_rangeMarks.T14.2 spec_rangeMarks.B14 = true := by kernel_rfl
set_option maxHeartbeats 8000000 in
set_option maxRecDepth 100000 in
theorem spec_rangeMarks.calls (k : Nat) (A0 : Option Addr) (c0 : Nat) (l0 : List (S24)) (r : List Int) (w : World) (hr0 : Kd.C k24 w A0 l0.length l0) (hc0 : l0.length ≤ c0) (h : spec_rangeMarks.f k l0 = some r) :
  Calls Try.prog 36 #[.slice A0 l0.length c0] w fun e w' => ∃ v0_ : Value, e = .returned (v0_) ∧ Kd.R (Kd.int .i64) 3 w' w.heap.size (fun _ => True) v0_ r ∧ Below w.heap.size w w' := by
 have hu24 := Try.underlying24
 have hu70 := Try.underlying70
 have HR0 := Aside0.mk hr0
 have HC0 := Aside0.mk hc0
 clear hr0 hc0
 have HB := Aside0.mk (Below.refl w.heap.size w)
 have H : (spec_rangeMarks.l0 k ([] : List Int) l0 (l0.length : Int) 0) = some r := h
 clear h
 have H' := Aside0.mk H
 clear H
 go_enter Try.func36, Try.ntmps36
 go_wp2
 go_loopg [3, 12] k (fun kq v3 v12 w' => ∃ (x3_1 : List Int) (x12_1 : Int), v12 = .int .i64 x12_1 ∧ Aside0 (spec_rangeMarks.l0 kq x3_1 l0 (l0.length : Int) x12_1 = some r) ∧ Aside0 (kq ≤ k) ∧ Aside0 (Kd.R (Kd.int .i64) 3 w' w.heap.size (fun _ => True) v3 x3_1) ∧ Aside0 (Below w.heap.size w w'))
 case atStart => exact ⟨(([] : List Int)), (0), (by first | rfl | (simp; done) | (simp [*]; done)), H', ⟨Nat.le_refl _⟩, ⟨by first | exact Kd.R_nil _ _ _ _ _ | exact Kd.N_nil _ _ _ _ _ | exact Kd.V_nil _ _ _ _ _ | exact Kd.Q_nil _ _ _ _ _ | exact Kd.S_nil _ _ _ _ _⟩, ⟨by repeat (first | (with_reducible first | exact HB.out | apply below_alloc | apply pw_below_drewN | apply below_drew1) | exact HB.out)⟩⟩
 case round =>
  clear H'
  obtain ⟨x3_1, x12_1, rfl, HA, HK1, HO_3, HB⟩ := hrel
  cases gk with
  | zero => exact absurd HA.out (by simp [spec_rangeMarks.l0])
  | succ k1 =>
   have H := HA.out
   clear HA
   simp only [spec_rangeMarks.l0] at H
   by_cases c2 : x12_1 < (l0.length : Int)
   ·rw [if_pos c2] at H
    have c2b0 : decide (x12_1 < (l0.length : Int)) = true := decide_eq_true c2
    clear c2
    by_cases c3 : 0 ≤ x12_1
    ·rw [if_pos c3] at H
     have c3b0 : decide (0 ≤ x12_1) = true := decide_eq_true c3
     clear c3
     by_cases c4 : x12_1 < (l0.length : Int)
     ·rw [if_pos c4] at H
      have c4b0 : decide (x12_1 < (l0.length : Int)) = true := decide_eq_true c4
      clear c4
      by_cases c5 : ((rd_T24 l0 x12_1).f1) < 1
      ·rw [if_pos c5] at H
       have c5b0 : decide (((rd_T24 l0 x12_1).f1) < 1) = true := decide_eq_true c5
       clear c5
       have H' := Aside0.mk H
       clear H
       have p194 : 0 ≤ (x12_1 : Int) := of_decide_eq_true (by first | (with_reducible assumption) | assumption)
       have q194 : x12_1 < (l0.length : Int) := of_decide_eq_true (by first | (with_reducible assumption) | assumption)
       obtain ⟨ad194, e194, hx194_0, hx194_1⟩ := at_T24 HR0.out x12_1 p194 q194
       cases e194
       replace hx194_0 := (HB.out.cell (World.block_lt_of_cell? w _ hx194_0)).trans hx194_0
       replace hx194_1 := (HB.out.cell (World.block_lt_of_cell? w _ hx194_1)).trans hx194_1
       replace p194 := eq_true p194
       replace q194 := eq_true q194
       go_wp2_with (first | ((with_reducible refine gate_dst (N := 5) rfl ?_); refine box_event ?hg (N := 5) ?hd (cs := #[.int .i64 0, .int .i64 0]) (t := 24) ?hr ?_; (case hd => rfl); (case hg => rfl); (case hr => first | (go_simp; done) | (go_simp; rfl)); intro gb195 hg w6 hbox hb; have n0_ := Aside0.mk (Kd.R_below (by (with_reducible repeat (first | apply Kd.R_alloc | apply Kd.R_drewN | apply Kd.R_drew)); exact HO_3.out) hb); have n1_ := Aside0.mk (below_step (by repeat (first | (with_reducible first | exact HB.out | apply below_alloc | apply pw_below_drewN | apply below_drew1) | exact HB.out)) hb); have n2_ := Aside0.mk (hbox); have n3_ := Aside0.mk ((by rw [hg]; exact (below_size (by repeat (first | (with_reducible first | exact HB.out | apply below_alloc | apply pw_below_drewN | apply below_drew1) | exact HB.out))) : w.heap.size ≤ gb195)); have n4_ := Aside0.mk ((by rw [hg]; exact (below_size (by repeat (first | (with_reducible first | exact HB.out | apply below_alloc | apply pw_below_drewN | apply below_drew1) | exact HB.out))) : w.heap.size ≤ gb195)); clear HO_3; clear HB; have HO_3 := n0_; have HB := n1_; have BK195 := n2_; have GW195 := n3_; have GE195 := n4_; clear n0_ n1_ n2_ n3_ n4_; clear hb hbox hg; have hcz7_0 : w6.cell? ⟨gb195, 0, none⟩ = some (.int .i64 0) := (blk_cell BK195.out 0).trans rfl; have hcz7_1 : w6.cell? ⟨gb195, 1, none⟩ = some (.int .i64 0) := (blk_cell BK195.out 1).trans rfl; have hfz7_0 := blk_frozen BK195.out 0; have hfz7_1 := blk_frozen BK195.out 1))
       go_roundg k1
       case measure => have := HK1.out; omega
       case rel => exact ⟨(x3_1), (wrap64 (x12_1 + 1)), (by first | rfl | (simp; done) | (simp [*]; done)), H', ⟨by have := HK1.out; omega⟩, ⟨by (with_reducible repeat (first | apply Kd.R_alloc | apply Kd.R_drewN | apply Kd.R_drew)); exact Kd.R_mono (Kd.R_far (p := ⟨gb195, 1, none⟩) (Kd.R_far (p := ⟨gb195, 0, none⟩) (Kd.R_types HO_3.out BK195.out (by decide)) (fun _ hk => hk.2) (.int .i64 ((rd_T24 l0 x12_1).f0))) (fun _ hk => hk.2) (.int .i64 ((rd_T24 l0 x12_1).f1))) (fun _ hk => trivial)⟩, ⟨by repeat (first | (with_reducible first | exact HB.out | apply below_alloc | apply pw_below_drewN | apply below_drew1 | refine below_set ?_ GE195.out) | exact HB.out)⟩⟩
      ·rw [if_neg c5] at H
       have c5b0 : decide (((rd_T24 l0 x12_1).f1) < 1) = false := decide_eq_false c5
       clear c5
       have H' := Aside0.mk H
       clear H
       have p194 : 0 ≤ (x12_1 : Int) := of_decide_eq_true (by first | (with_reducible assumption) | assumption)
       have q194 : x12_1 < (l0.length : Int) := of_decide_eq_true (by first | (with_reducible assumption) | assumption)
       obtain ⟨ad194, e194, hx194_0, hx194_1⟩ := at_T24 HR0.out x12_1 p194 q194
       cases e194
       replace hx194_0 := (HB.out.cell (World.block_lt_of_cell? w _ hx194_0)).trans hx194_0
       replace hx194_1 := (HB.out.cell (World.block_lt_of_cell? w _ hx194_1)).trans hx194_1
       replace p194 := eq_true p194
       replace q194 := eq_true q194
       go_wp2_with (first | ((with_reducible refine gate_dst (N := 5) rfl ?_); refine box_event ?hg (N := 5) ?hd (cs := #[.int .i64 0, .int .i64 0]) (t := 24) ?hr ?_; (case hd => rfl); (case hg => rfl); (case hr => first | (go_simp; done) | (go_simp; rfl)); intro gb195 hg w8 hbox hb; have n0_ := Aside0.mk (Kd.R_below (by (with_reducible repeat (first | apply Kd.R_alloc | apply Kd.R_drewN | apply Kd.R_drew)); exact HO_3.out) hb); have n1_ := Aside0.mk (below_step (by repeat (first | (with_reducible first | exact HB.out | apply below_alloc | apply pw_below_drewN | apply below_drew1) | exact HB.out)) hb); have n2_ := Aside0.mk (hbox); have n3_ := Aside0.mk ((by rw [hg]; exact (below_size (by repeat (first | (with_reducible first | exact HB.out | apply below_alloc | apply pw_below_drewN | apply below_drew1) | exact HB.out))) : w.heap.size ≤ gb195)); have n4_ := Aside0.mk ((by rw [hg]; exact (below_size (by repeat (first | (with_reducible first | exact HB.out | apply below_alloc | apply pw_below_drewN | apply below_drew1) | exact HB.out))) : w.heap.size ≤ gb195)); clear HO_3; clear HB; have HO_3 := n0_; have HB := n1_; have BK195 := n2_; have GW195 := n3_; have GE195 := n4_; clear n0_ n1_ n2_ n3_ n4_; clear hb hbox hg; have hcz9_0 : w8.cell? ⟨gb195, 0, none⟩ = some (.int .i64 0) := (blk_cell BK195.out 0).trans rfl; have hcz9_1 : w8.cell? ⟨gb195, 1, none⟩ = some (.int .i64 0) := (blk_cell BK195.out 1).trans rfl; have hfz9_0 := blk_frozen BK195.out 0; have hfz9_1 := blk_frozen BK195.out 1))
       go_loopg [3, 27] k1 (fun kq v3 v27 w' => ∃ (x3_2 : List Int) (x27_2 : Int), v27 = .int .i64 x27_2 ∧ Aside0 (spec_rangeMarks.l1 kq x3_2 l0 (l0.length : Int) x12_1 x27_2 ((rd_T24 l0 x12_1).f0) (wrap64 (((rd_T24 l0 x12_1).f0) + ((rd_T24 l0 x12_1).f1))) = some r) ∧ Aside0 (kq ≤ k1) ∧ Aside0 (Kd.R (Kd.int .i64) 3 w' w.heap.size (fun _ => True) v3 x3_2) ∧ Aside0 (w'.heap[gb195]? = some (.cells #[.int .i64 ((rd_T24 l0 x12_1).f0), .int .i64 ((rd_T24 l0 x12_1).f1)] 24 (0, 0))) ∧ Aside0 (Below w.heap.size w w'))
       case atStart => exact ⟨(x3_1), (0), (by first | rfl | (simp; done) | (simp [*]; done)), H', ⟨Nat.le_refl _⟩, ⟨by (with_reducible repeat (first | apply Kd.R_alloc | apply Kd.R_drewN | apply Kd.R_drew)); exact Kd.R_mono (Kd.R_far (p := ⟨gb195, 1, none⟩) (Kd.R_far (p := ⟨gb195, 0, none⟩) (Kd.R_types HO_3.out BK195.out (by decide)) (fun _ hk => hk.2) (.int .i64 ((rd_T24 l0 x12_1).f0))) (fun _ hk => hk.2) (.int .i64 ((rd_T24 l0 x12_1).f1))) (fun _ hk => trivial)⟩, ⟨by (with_reducible repeat (first | refine blk_drewN ?_ _ | refine blk_drew ?_ | refine blk_alloc ?_ _)); refine blk_put (cs := #[.int .i64 ((rd_T24 l0 x12_1).f0), .int .i64 0]) ?_ 1 _ rfl; (with_reducible repeat (first | refine blk_drewN ?_ _ | refine blk_drew ?_ | refine blk_alloc ?_ _)); refine blk_put (cs := #[.int .i64 0, .int .i64 0]) ?_ 0 _ rfl; (with_reducible repeat (first | refine blk_drewN ?_ _ | refine blk_drew ?_ | refine blk_alloc ?_ _)); exact BK195.out⟩, ⟨by repeat (first | (with_reducible first | exact HB.out | apply below_alloc | apply pw_below_drewN | apply below_drew1 | refine below_set ?_ GE195.out) | exact HB.out)⟩⟩
       case round =>
        clear H'
        try clear p1
        try clear q1
        try clear hx1
        try clear c2
        try clear c2b0
        try clear p2
        try clear c3
        try clear c3b0
        try clear c4
        try clear c4b0
        try clear c5
        try clear c5b0
        try clear p6
        try clear hcz7_0
        try clear hcz7_1
        try clear hcz9_0
        try clear hcz9_1
        try clear hfz7_0
        try clear hfz7_1
        try clear hfz9_0
        try clear hfz9_1
        try clear hx194_0
        try clear hx194_1
        try clear p194
        try clear q194
        obtain ⟨x3_2, x27_2, rfl, HA, HK2, HO_3, BK195, HB⟩ := hrel
        cases gk with
        | zero => exact absurd HA.out (by simp [spec_rangeMarks.l1])
        | succ k2 =>
         have H := HA.out
         clear HA
         simp only [spec_rangeMarks.l1] at H
         by_cases c10 : x27_2 < 2
         ·rw [if_pos c10] at H
          have c10b0 : decide (x27_2 < 2) = true := decide_eq_true c10
          clear c10
          by_cases c11 : 0 ≤ x27_2
          ·rw [if_pos c11] at H
           have c11b0 := eq_true c11
           have c11b1 : decide (0 ≤ x27_2) = true := decide_eq_true c11
           clear c11
           have H' := Aside0.mk H
           clear H
           go_wp2
           go_loopg [8] k2 (fun kq v8 w' => ∃ (x8_3 : Int), v8 = .int .i64 x8_3 ∧ Aside0 (spec_rangeMarks.l2 kq x3_2 (pick2 x27_2 ((rd_T24 l0 x12_1).f0) (wrap64 (((rd_T24 l0 x12_1).f0) + ((rd_T24 l0 x12_1).f1)))) x8_3 l0 (l0.length : Int) x12_1 x27_2 ((rd_T24 l0 x12_1).f0) (wrap64 (((rd_T24 l0 x12_1).f0) + ((rd_T24 l0 x12_1).f1))) = some r) ∧ Aside0 (kq ≤ k2) ∧ Aside0 (Kd.R (Kd.int .i64) 3 w' w.heap.size (fun _ => True) u3 x3_2) ∧ Aside0 (w'.heap[gb195]? = some (.cells #[.int .i64 ((rd_T24 l0 x12_1).f0), .int .i64 ((rd_T24 l0 x12_1).f1)] 24 (0, 0))) ∧ Aside0 (Below w.heap.size w w'))
           case atStart => exact ⟨(0), (by first | rfl | (simp; done) | (simp [*]; done)), H', ⟨Nat.le_refl _⟩, ⟨by (with_reducible repeat (first | apply Kd.R_alloc | apply Kd.R_drewN | apply Kd.R_drew)); exact HO_3.out⟩, ⟨by (with_reducible repeat (first | refine blk_drewN ?_ _ | refine blk_drew ?_ | refine blk_alloc ?_ _)); exact BK195.out⟩, ⟨by repeat (first | (with_reducible first | exact HB.out | apply below_alloc | apply pw_below_drewN | apply below_drew1 | refine below_set ?_ GE195.out) | exact HB.out)⟩⟩
           case round =>
            clear H'
            try clear c1
            try clear p1
            try clear q1
            try clear hx1
            try clear c2
            try clear c2b0
            try clear p2
            try clear c3
            try clear c3b0
            try clear c4
            try clear c4b0
            try clear c5
            try clear c5b0
            try clear p6
            try clear c10
            try clear c10b0
            try clear c11
            try clear c11b0
            try clear c11b1
            try clear hcz7_0
            try clear hcz7_1
            try clear hcz9_0
            try clear hcz9_1
            try clear hfz7_0
            try clear hfz7_1
            try clear hfz9_0
            try clear hfz9_1
            try clear hx194_0
            try clear hx194_1
            try clear p1
            try clear p194
            try clear p2
            try clear p6
            try clear q1
            try clear q194
            obtain ⟨x8_3, rfl, HA, HK3, HO_3, BK195, HB⟩ := hrel
            cases gk with
            | zero => exact absurd HA.out (by simp [spec_rangeMarks.l2])
            | succ k3 =>
             have H := HA.out
             clear HA
             simp only [spec_rangeMarks.l2] at H
             by_cases c12 : x8_3 < (x3_2.length : Int)
             ·rw [if_pos c12] at H
              have c12b0 : decide (x8_3 < (x3_2.length : Int)) = true := decide_eq_true c12
              clear c12
              by_cases c13 : 0 ≤ x8_3
              ·rw [if_pos c13] at H
               have c13b0 : decide (0 ≤ x8_3) = true := decide_eq_true c13
               clear c13
               by_cases c14 : (rd x3_2 x8_3) < (pick2 x27_2 ((rd_T24 l0 x12_1).f0) (wrap64 (((rd_T24 l0 x12_1).f0) + ((rd_T24 l0 x12_1).f1))))
               ·rw [if_pos c14] at H
                have c14b0 : decide ((rd x3_2 x8_3) < (pick2 x27_2 ((rd_T24 l0 x12_1).f0) (wrap64 (((rd_T24 l0 x12_1).f0) + ((rd_T24 l0 x12_1).f1))))) = true := decide_eq_true c14
                clear c14
                have H' := Aside0.mk H
                clear H
                obtain ⟨Ao15, co15, eo15⟩ := Kd.R_slice HO_3.out
                subst eo15
                have p196 : 0 ≤ (x8_3 : Int) := of_decide_eq_true (by first | (with_reducible assumption) | assumption)
                have q196 : x8_3 < (x3_2.length : Int) := of_decide_eq_true (by first | (with_reducible assumption) | assumption)
                obtain ⟨ad196, e196, hx196_0⟩ := Kd.at_int (Kd.R_reads' HO_3.out).2.2 x8_3 p196 q196
                cases e196
                replace p196 := eq_true p196
                replace q196 := eq_true q196
                go_wp2
                go_roundg k3
                case measure => have := HK1.out; have := HK2.out; have := HK3.out; omega
                case rel => exact ⟨(wrap64 (x8_3 + 1)), (by first | rfl | (simp; done) | (simp [*]; done)), H', ⟨by have := HK1.out; have := HK2.out; have := HK3.out; omega⟩, ⟨by (with_reducible repeat (first | apply Kd.R_alloc | apply Kd.R_drewN | apply Kd.R_drew)); exact HO_3.out⟩, ⟨by (with_reducible repeat (first | refine blk_drewN ?_ _ | refine blk_drew ?_ | refine blk_alloc ?_ _)); exact BK195.out⟩, ⟨by repeat (first | (with_reducible first | exact HB.out | apply below_alloc | apply pw_below_drewN | apply below_drew1 | refine below_set ?_ GE195.out) | exact HB.out)⟩⟩
               ·rw [if_neg c14] at H
                have c14b0 : decide ((rd x3_2 x8_3) < (pick2 x27_2 ((rd_T24 l0 x12_1).f0) (wrap64 (((rd_T24 l0 x12_1).f0) + ((rd_T24 l0 x12_1).f1))))) = false := decide_eq_false c14
                clear c14
                by_cases c16 : (rd x3_2 x8_3) = (pick2 x27_2 ((rd_T24 l0 x12_1).f0) (wrap64 (((rd_T24 l0 x12_1).f0) + ((rd_T24 l0 x12_1).f1))))
                ·rw [if_pos c16] at H
                 have c16b0 : ((rd x3_2 x8_3) == (pick2 x27_2 ((rd_T24 l0 x12_1).f0) (wrap64 (((rd_T24 l0 x12_1).f0) + ((rd_T24 l0 x12_1).f1))))) = true := beq_iff_eq.mpr c16
                 have c16b1 : ((rd x3_2 x8_3) != (pick2 x27_2 ((rd_T24 l0 x12_1).f0) (wrap64 (((rd_T24 l0 x12_1).f0) + ((rd_T24 l0 x12_1).f1))))) = false := bne_eq_false_iff_eq.mpr c16
                 clear c16
                 have H' := Aside0.mk H
                 clear H
                 obtain ⟨Ao17, co17, eo17⟩ := Kd.R_slice HO_3.out
                 subst eo17
                 have p196 : 0 ≤ (x8_3 : Int) := of_decide_eq_true (by first | (with_reducible assumption) | assumption)
                 have q196 : x8_3 < (x3_2.length : Int) := of_decide_eq_true (by first | (with_reducible assumption) | assumption)
                 obtain ⟨ad196, e196, hx196_0⟩ := Kd.at_int (Kd.R_reads' HO_3.out).2.2 x8_3 p196 q196
                 cases e196
                 replace p196 := eq_true p196
                 replace q196 := eq_true q196
                 have p197 : 0 ≤ (x8_3 : Int) := of_decide_eq_true (by first | (with_reducible assumption) | assumption)
                 have q197 : x8_3 < (x3_2.length : Int) := of_decide_eq_true (by first | (with_reducible assumption) | assumption)
                 obtain ⟨ad197, e197, hx197_0⟩ := Kd.at_int (Kd.R_reads' HO_3.out).2.2 x8_3 p197 q197
                 obtain rfl : ad196 = ad197 := (by injection e197)
                 replace p197 := eq_true p197
                 replace q197 := eq_true q197
                 go_wp2
                 go_roundg k3
                 case measure => have := HK1.out; have := HK2.out; have := HK3.out; omega
                 case rel => exact ⟨(x3_2), (wrap64 (x27_2 + 1)), (by first | rfl | (simp; done) | (simp [*]; done)), H', ⟨by have := HK1.out; have := HK2.out; have := HK3.out; omega⟩, ⟨by (with_reducible repeat (first | apply Kd.R_alloc | apply Kd.R_drewN | apply Kd.R_drew)); exact HO_3.out⟩, ⟨by (with_reducible repeat (first | refine blk_drewN ?_ _ | refine blk_drew ?_ | refine blk_alloc ?_ _)); exact BK195.out⟩, ⟨by repeat (first | (with_reducible first | exact HB.out | apply below_alloc | apply pw_below_drewN | apply below_drew1 | refine below_set ?_ GE195.out) | exact HB.out)⟩⟩
                ·rw [if_neg c16] at H
                 have c16b0 : ((rd x3_2 x8_3) == (pick2 x27_2 ((rd_T24 l0 x12_1).f0) (wrap64 (((rd_T24 l0 x12_1).f0) + ((rd_T24 l0 x12_1).f1))))) = false := beq_eq_false_iff_ne.mpr c16
                 have c16b1 : ((rd x3_2 x8_3) != (pick2 x27_2 ((rd_T24 l0 x12_1).f0) (wrap64 (((rd_T24 l0 x12_1).f0) + ((rd_T24 l0 x12_1).f1))))) = true := bne_iff_ne.mpr c16
                 obtain ⟨y198, hy198⟩ : ∃ y_ : List Int, y_ = (([] : List Int)) := ⟨_, rfl⟩
                 replace H : (if x8_3 ≤ (x3_2.length : Int) then ((some (x3_2.take (x8_3 : Int).toNat : List Int)).bind fun y201 => (if y198.length + y201.length < 17592186044416 then ((some (y198 ++ y201 : List Int)).bind fun y205 => (if y205.length < 17592186044416 then ((some (y205 ++ [(pick2 x27_2 ((rd_T24 l0 x12_1).f0) (wrap64 (((rd_T24 l0 x12_1).f0) + ((rd_T24 l0 x12_1).f1))))] : List Int)).bind fun y208 => ((some (x3_2.drop (x8_3 : Int).toNat : List Int)).bind fun y211 => (if y208.length + y211.length < 17592186044416 then (spec_rangeMarks.l1 k3 (y208 ++ y211) l0 (l0.length : Int) x12_1 (wrap64 (x27_2 + 1)) ((rd_T24 l0 x12_1).f0) (wrap64 (((rd_T24 l0 x12_1).f0) + ((rd_T24 l0 x12_1).f1)))) else (none)))) else (none))) else (none))) else (none)) = some r := by first | (rw [hy198]; with_reducible exact H) | (have H2_ := (Option.bind_some _ _).symm.trans H; rw [hy198]; with_reducible exact H2_) | (have H2_ := (Option.bind_some _ _).symm.trans H; with_reducible exact H2_) | with_reducible exact H | (rw [hy198]; exact H) | exact H
                 have Ny198 := Aside0.mk hy198
                 clear hy198
                 have c18b0 := eq_true (of_decide_eq_true (by first | (with_reducible assumption) | assumption) : 0 ≤ x8_3)
                 by_cases c19 : x8_3 ≤ (x3_2.length : Int)
                 ·rw [if_pos c19] at H
                  have c19b0 := eq_true c19
                  have c19b1 : decide (x8_3 ≤ (x3_2.length : Int)) = true := decide_eq_true c19
                  clear c19
                  obtain ⟨y201, hy201⟩ : ∃ y_ : List Int, y_ = (x3_2.take (x8_3 : Int).toNat) := ⟨_, rfl⟩
                  replace H : (if y198.length + y201.length < 17592186044416 then ((some (y198 ++ y201 : List Int)).bind fun y205 => (if y205.length < 17592186044416 then ((some (y205 ++ [(pick2 x27_2 ((rd_T24 l0 x12_1).f0) (wrap64 (((rd_T24 l0 x12_1).f0) + ((rd_T24 l0 x12_1).f1))))] : List Int)).bind fun y208 => ((some (x3_2.drop (x8_3 : Int).toNat : List Int)).bind fun y211 => (if y208.length + y211.length < 17592186044416 then (spec_rangeMarks.l1 k3 (y208 ++ y211) l0 (l0.length : Int) x12_1 (wrap64 (x27_2 + 1)) ((rd_T24 l0 x12_1).f0) (wrap64 (((rd_T24 l0 x12_1).f0) + ((rd_T24 l0 x12_1).f1)))) else (none)))) else (none))) else (none)) = some r := by first | (rw [hy201]; with_reducible exact H) | (have H2_ := (Option.bind_some _ _).symm.trans H; rw [hy201]; with_reducible exact H2_) | (have H2_ := (Option.bind_some _ _).symm.trans H; with_reducible exact H2_) | with_reducible exact H | (rw [hy201]; exact H) | exact H
                  have Ny201 := Aside0.mk hy201
                  clear hy201
                  by_cases c20 : y198.length + y201.length < 17592186044416
                  ·rw [if_pos c20] at H
                   have LMc20 := Aside0.mk c20
                   clear c20
                   obtain ⟨y205, hy205⟩ : ∃ y_ : List Int, y_ = (y198 ++ y201) := ⟨_, rfl⟩
                   replace H : (if y205.length < 17592186044416 then ((some (y205 ++ [(pick2 x27_2 ((rd_T24 l0 x12_1).f0) (wrap64 (((rd_T24 l0 x12_1).f0) + ((rd_T24 l0 x12_1).f1))))] : List Int)).bind fun y208 => ((some (x3_2.drop (x8_3 : Int).toNat : List Int)).bind fun y211 => (if y208.length + y211.length < 17592186044416 then (spec_rangeMarks.l1 k3 (y208 ++ y211) l0 (l0.length : Int) x12_1 (wrap64 (x27_2 + 1)) ((rd_T24 l0 x12_1).f0) (wrap64 (((rd_T24 l0 x12_1).f0) + ((rd_T24 l0 x12_1).f1)))) else (none)))) else (none)) = some r := by first | (rw [hy205]; with_reducible exact H) | (have H2_ := (Option.bind_some _ _).symm.trans H; rw [hy205]; with_reducible exact H2_) | (have H2_ := (Option.bind_some _ _).symm.trans H; with_reducible exact H2_) | with_reducible exact H | (rw [hy205]; exact H) | exact H
                   have Ny205 := Aside0.mk hy205
                   clear hy205
                   by_cases c21 : y205.length < 17592186044416
                   ·rw [if_pos c21] at H
                    have LMc21 := Aside0.mk c21
                    clear c21
                    obtain ⟨y208, hy208⟩ : ∃ y_ : List Int, y_ = (y205 ++ [(pick2 x27_2 ((rd_T24 l0 x12_1).f0) (wrap64 (((rd_T24 l0 x12_1).f0) + ((rd_T24 l0 x12_1).f1))))]) := ⟨_, rfl⟩
                    replace H : ((some (x3_2.drop (x8_3 : Int).toNat : List Int)).bind fun y211 => (if y208.length + y211.length < 17592186044416 then (spec_rangeMarks.l1 k3 (y208 ++ y211) l0 (l0.length : Int) x12_1 (wrap64 (x27_2 + 1)) ((rd_T24 l0 x12_1).f0) (wrap64 (((rd_T24 l0 x12_1).f0) + ((rd_T24 l0 x12_1).f1)))) else (none))) = some r := by first | (rw [hy208]; with_reducible exact H) | (have H2_ := (Option.bind_some _ _).symm.trans H; rw [hy208]; with_reducible exact H2_) | (have H2_ := (Option.bind_some _ _).symm.trans H; with_reducible exact H2_) | with_reducible exact H | (rw [hy208]; exact H) | exact H
                    have Ny208 := Aside0.mk hy208
                    clear hy208
                    have c22b0 := eq_true (of_decide_eq_true (by first | (with_reducible assumption) | assumption) : 0 ≤ x8_3)
                    have c23b0 := eq_true (of_decide_eq_true (by first | (with_reducible assumption) | assumption) : x8_3 ≤ (x3_2.length : Int))
                    obtain ⟨y211, hy211⟩ : ∃ y_ : List Int, y_ = (x3_2.drop (x8_3 : Int).toNat) := ⟨_, rfl⟩
                    replace H : (if y208.length + y211.length < 17592186044416 then (spec_rangeMarks.l1 k3 (y208 ++ y211) l0 (l0.length : Int) x12_1 (wrap64 (x27_2 + 1)) ((rd_T24 l0 x12_1).f0) (wrap64 (((rd_T24 l0 x12_1).f0) + ((rd_T24 l0 x12_1).f1)))) else (none)) = some r := by first | (rw [hy211]; with_reducible exact H) | (have H2_ := (Option.bind_some _ _).symm.trans H; rw [hy211]; with_reducible exact H2_) | (have H2_ := (Option.bind_some _ _).symm.trans H; with_reducible exact H2_) | with_reducible exact H | (rw [hy211]; exact H) | exact H
                    have Ny211 := Aside0.mk hy211
                    clear hy211
                    by_cases c24 : y208.length + y211.length < 17592186044416
                    ·rw [if_pos c24] at H
                     have LMc24 := Aside0.mk c24
                     clear c24
                     obtain ⟨y215, hy215⟩ : ∃ y_ : List Int, y_ = (y208 ++ y211) := ⟨_, rfl⟩
                     replace H : (spec_rangeMarks.l1 k3 y215 l0 (l0.length : Int) x12_1 (wrap64 (x27_2 + 1)) ((rd_T24 l0 x12_1).f0) (wrap64 (((rd_T24 l0 x12_1).f0) + ((rd_T24 l0 x12_1).f1)))) = some r := by first | (rw [hy215]; with_reducible exact H) | (have H2_ := (Option.bind_some _ _).symm.trans H; rw [hy215]; with_reducible exact H2_) | (have H2_ := (Option.bind_some _ _).symm.trans H; with_reducible exact H2_) | with_reducible exact H | (rw [hy215]; exact H) | exact H
                     have Ny215 := Aside0.mk hy215
                     clear hy215
                     have H' := Aside0.mk H
                     clear H
                     obtain ⟨Ao25, co25, eo25⟩ := Kd.R_slice HO_3.out
                     subst eo25
                     have p196 : 0 ≤ (x8_3 : Int) := of_decide_eq_true (by first | (with_reducible assumption) | assumption)
                     have q196 : x8_3 < (x3_2.length : Int) := of_decide_eq_true (by first | (with_reducible assumption) | assumption)
                     obtain ⟨ad196, e196, hx196_0⟩ := Kd.at_int (Kd.R_reads' HO_3.out).2.2 x8_3 p196 q196
                     cases e196
                     replace p196 := eq_true p196
                     replace q196 := eq_true q196
                     have p197 : 0 ≤ (x8_3 : Int) := of_decide_eq_true (by first | (with_reducible assumption) | assumption)
                     have q197 : x8_3 < (x3_2.length : Int) := of_decide_eq_true (by first | (with_reducible assumption) | assumption)
                     obtain ⟨ad197, e197, hx197_0⟩ := Kd.at_int (Kd.R_reads' HO_3.out).2.2 x8_3 p197 q197
                     obtain rfl : ad196 = ad197 := (by injection e197)
                     replace p197 := eq_true p197
                     replace q197 := eq_true q197
                     try go_wp2_with (first | ((with_reducible refine gate_dst (N := 56) rfl ?_); refine Kd.R_lit (Kd.int .i64) _ 3 ?hg (N := 56) ?hd (xs := ([] : List Int)) (inner := []) (ok := fun _ => True) (okp := fun _ => True) ?hr ?hp (fun _ hk => hk) trivial (Below.refl _ _) (Nat.le_refl _) (by simp) ?_; (case hd => rfl); (case hg => rfl); (case hr => first | (go_simp; done) | (go_simp; rfl)); (case hp => exact (Reps.none _ _)); intro v199 w26 ho27 hb hg_ hnew_; clear hg_ hnew_; (first | rw [← Ny198.out] at ho27 | (simp only [Int.reduceToNat] at ho27; rw [← Ny198.out] at ho27)); have n0_ := Aside0.mk (Kd.R_elder' (by (with_reducible repeat (first | apply Kd.R_alloc | apply Kd.R_drewN | apply Kd.R_drew)); exact HO_3.out) (Kd.R_base ho27) hb); have n1_ := Aside0.mk (Kd.R_lower (Kd.R_new' ho27 (Kd.R_lt (by (with_reducible repeat (first | apply Kd.R_alloc | apply Kd.R_drewN | apply Kd.R_drew)); exact HO_3.out))) (below_size (by repeat (first | (with_reducible first | exact HB.out | apply below_alloc | apply pw_below_drewN | apply below_drew1 | refine below_set ?_ GE195.out) | exact HB.out)))); have n2_ := Aside0.mk (blk_below (g := gb195) (o := .cells #[.int .i64 ((rd_T24 l0 x12_1).f0), .int .i64 ((rd_T24 l0 x12_1).f1)] 24 (0, 0)) (by (with_reducible repeat (first | refine blk_drewN ?_ _ | refine blk_drew ?_ | refine blk_alloc ?_ _)); exact BK195.out) hb); have n3_ := Aside0.mk (below_step (by repeat (first | (with_reducible first | exact HB.out | apply below_alloc | apply pw_below_drewN | apply below_drew1 | refine below_set ?_ GE195.out) | exact HB.out)) hb); clear HO_3; clear BK195; clear HB; have HO_3 := n0_; have HO200 := n1_; have BK195 := n2_; have HB := n3_; clear n0_ n1_ n2_ n3_; clear hb ho27; have q28 : (x8_3 : Int) ≤ ((x3_2.length : Int) : Int) := of_decide_eq_true (by first | (with_reducible assumption) | assumption); obtain ⟨i028, hi028, _, hsz28, _⟩ := info_parts info3; have hroom28 : x3_2.length ≤ co25 := (Kd.R_reads' HO_3.out).2.1; have hC28 : Kd.C (Kd.int .i64) _ (some ad196) x3_2.length x3_2 := (Kd.R_reads' HO_3.out).2.2; have hcut28 := cut_to (P := Try.prog) 56 3 .i64 Try.underlying56 hi028 (some ad196) x3_2.length co25 x8_3 (of_decide_eq_true (by first | (with_reducible assumption) | assumption)) q28 hroom28; have hr28 := Kd.C_take (m := (x8_3 : Int).toNat) hC28 (by omega); have hy28 : y201.length = (x8_3 : Int).toNat := (by rw [Ny201.out, List.length_take]; omega); rw [← Ny201.out] at hr28; rw [← hy28] at hcut28; have HR204 := Aside0.mk hr28; have HC204 := Aside0.mk (show y201.length ≤ co25 from by omega); clear hr28 hC28 hroom28 hi028 hsz28; have KY28 := Aside0.mk hy28; clear hy28; have KL28 := Aside0.mk (show (x8_3 : Int).toNat ≤ x3_2.length from by omega); replace q28 := eq_true q28) | (at_builtin; refine Kd.R_append_rows (Kd.int .i64) (w0 := w) w.heap.size rfl (.tmp 56) (.tmp 59) 56 3 (.int .i64 0) 8 rfl Try.underlying56 info3 rfl (by decide) (by omega) v199 y198 y201 _ _ _ (fun k_ => some k_ ≠ (.slice (some ad196) x3_2.length co25 : Value).ownBlock) (fun _ => False) rfl rfl ?aO ?aR (fun _ _ h => h) (fun _ h => h.elim) ?aF ?aB ?aS ?aL ?_; (case aR => repeat (first | exact (by repeat (first | (with_reducible exact HR204.out) | (with_reducible refine Kd.C_alloc ?_ _) | (with_reducible refine Kd.C_drewN ?_ _) | (with_reducible refine Kd.C_drew ?_) | exact HR204.out)) | (with_reducible refine Kd.C_alloc ?_ _) | (with_reducible refine Kd.C_drewN ?_ _) | (with_reducible refine Kd.C_drew ?_))); (case aB => exact (by repeat (first | (with_reducible first | exact HB.out | apply below_alloc | apply pw_below_drewN | apply below_drew1 | refine below_set ?_ GE195.out) | exact HB.out))); (case aF => exact (fun k_ hk => Kd.fresh' (Kd.R_lt (by (with_reducible repeat (first | apply Kd.R_alloc | apply Kd.R_drewN | apply Kd.R_drew)); exact HO_3.out)) k_ hk)); (case aO => exact (by (with_reducible repeat (first | apply Kd.R_alloc | apply Kd.R_drewN | apply Kd.R_drew)); exact Kd.R_mono HO200.out (fun _ hk => hk.2))); (case aS => exact (below_size (by repeat (first | (with_reducible first | exact HB.out | apply below_alloc | apply pw_below_drewN | apply below_drew1 | refine below_set ?_ GE195.out) | exact HB.out)))); (case aL => have := LMc20.out; omega); intro v206 w29 ho hb hg hat; rw [← Ny205.out] at ho; have n0_ := Aside0.mk (Kd.R_after (ok := (fun _ => True)) (by (with_reducible repeat (first | apply Kd.R_alloc | apply Kd.R_drewN | apply Kd.R_drew)); exact HO_3.out) hg hat); have n1_ := Aside0.mk (blk_grown (g := gb195) (o := .cells #[.int .i64 ((rd_T24 l0 x12_1).f0), .int .i64 ((rd_T24 l0 x12_1).f1)] 24 (0, 0)) (by (with_reducible repeat (first | refine blk_drewN ?_ _ | refine blk_drew ?_ | refine blk_alloc ?_ _)); exact BK195.out) hg (Kd.R_ne HO200.out BK195.out (by decide))); have n2_ := Aside0.mk (hb); have n3_ := Aside0.mk ((show Kd.C (Kd.int .i64) w29 (some ad196) y201.length y201 from by rw [Ny201.out]; exact Kd.C_take (m := (x8_3 : Int).toNat) ((Kd.R_reads' (Kd.R_after (ok := (fun _ => True)) (by (with_reducible repeat (first | apply Kd.R_alloc | apply Kd.R_drewN | apply Kd.R_drew)); exact HO_3.out) hg hat)).2.2) KL28.out)); have n4_ := Aside0.mk (ho); clear HO_3; clear BK195; clear HB; clear HR204; clear HO200; have HO_3 := n0_; have BK195 := n1_; have HB := n2_; have HR204 := n3_; have HO207 := n4_; clear n0_ n1_ n2_ n3_ n4_; clear ho hb hg hat))
                     have n0_ := Aside0.mk (Kd.R_drew HO_3.out)
                     have n1_ := Aside0.mk (Kd.R_drew HO207.out)
                     have n2_ := Aside0.mk (blk_drew BK195.out)
                     have n3_ := Aside0.mk (Kd.C_drew HR204.out)
                     have n4_ := Aside0.mk (below_drew1 HB.out)
                     clear HO_3
                     clear HO207
                     clear BK195
                     clear HR204
                     clear HB
                     have HO_3 := n0_
                     have HO207 := n1_
                     have BK195 := n2_
                     have HR204 := n3_
                     have HB := n4_
                     clear n0_ n1_ n2_ n3_ n4_
                     have q31 : (x8_3 : Int) ≤ ((x3_2.length : Int) : Int) := of_decide_eq_true (by first | (with_reducible assumption) | assumption)
                     obtain ⟨i031, hi031, _, hsz31, _⟩ := info_parts info3
                     have hroom31 : x3_2.length ≤ co25 := (Kd.R_reads' HO_3.out).2.1
                     have hC31 : Kd.C (Kd.int .i64) _ (some ad196) x3_2.length x3_2 := (Kd.R_reads' HO_3.out).2.2
                     have q031 : (0 : Int) ≤ (x8_3 : Int) := of_decide_eq_true (by first | (with_reducible assumption) | assumption)
                     have hcut31 := cut_from (P := Try.prog) 56 3 .i64 Try.underlying56 hi031 1 hsz31 (some ad196) x3_2.length co25 x8_3 q031 q31
                     have hr31 := Kd.C_drop (m := (x8_3 : Int).toNat) (c := co25) hC31 (by omega) hroom31
                     obtain ⟨A31, hA31⟩ : ∃ A1, A1 = (if co25 = (x8_3 : Int).toNat then (some ad196) else ((some ad196) : Option Addr).map (·.add ((x8_3 : Int).toNat * 1))) := ⟨_, rfl⟩
                     obtain ⟨c31, hc31⟩ : ∃ c1, c1 = co25 - (x8_3 : Int).toNat := ⟨_, rfl⟩
                     have hy31 : y211.length = x3_2.length - (x8_3 : Int).toNat := (by rw [Ny211.out, List.length_drop] <;> omega)
                     rw [show (x3_2).drop (x8_3 : Int).toNat = y211 from Ny211.out.symm] at hr31
                     replace hr31 : Kd.C (Kd.int .i64) _ A31 y211.length y211 := (by rw [hA31]; exact hr31)
                     rw [← hy31, ← hA31, ← hc31] at hcut31
                     have HR214 := Aside0.mk hr31
                     have HC214 := Aside0.mk (show y211.length ≤ c31 from by rw [hy31, hc31]; exact Nat.sub_le_sub_right hroom31 _)
                     clear hr31 hC31 hroom31 hi031 hsz31 hc31
                     have KY31 := Aside0.mk hy31
                     have KA31 := Aside0.mk hA31
                     clear hy31 hA31
                     have KL31 := Aside0.mk (show (x8_3 : Int).toNat ≤ x3_2.length from by omega)
                     replace q31 := eq_true q31
                     refine start_ (n := 9) (S := fun w' => True) (ds := []) #[false, false, false, false, false, false, false, false, false] (by kernel_rfl) rfl rfl trivial (fun hHeld => ?_); refine with_tabW spec_rangeMarks.tab14 spec_rangeMarks.bits14 (fun HT_ HW_ => ?_)
                     generalize w29.drew = w30 at HO_3 HO207 BK195 HR204 HB HR214 hHeld ⊢
                     refine pure_ (i := 0) (N := some 61) (v := ?_) (a' := ?_) #[true, false, false, false, false, false, false, false, false] rfl rfl (any_of HT_.out (by kernel_rfl)) (fun _ _ _ h => h) (Or.inl ⟨by rfl, ?_⟩) ?_ ?_
                     rotate_left
                     ·intro w'
                      go_simp
                      with_reducible rfl
                     rotate_left
                     ·simp only [Act.put, List.setIfInBounds_toArray, List.set_cons_zero, List.set_cons_succ, i64_w, i32_w]
                      rfl
                     refine pure_ (i := 1) (N := some 62) (v := ?_) (a' := ?_) #[true, true, false, false, false, false, false, false, false] rfl rfl (any_of HT_.out (by kernel_rfl)) (fun _ _ _ h => h) (Or.inl ⟨by rfl, ?_⟩) ?_ ?_
                     rotate_left
                     ·intro w'
                      go_simp
                      with_reducible rfl
                     rotate_left
                     ·simp only [Act.put, List.setIfInBounds_toArray, List.set_cons_zero, List.set_cons_succ, i64_w, i32_w]
                      rfl
                     refine pure_ (i := 4) (N := some 65) (v := ?_) (a' := ?_) #[true, true, false, false, true, false, false, false, false] rfl rfl (any_of HT_.out (by kernel_rfl)) (fun _ _ _ h => h) (Or.inl ⟨by rfl, ?_⟩) ?_ ?_
                     rotate_left
                     ·intro w'
                      go_simp
                      with_reducible rfl
                     rotate_left
                     ·simp only [Act.put, List.setIfInBounds_toArray, List.set_cons_zero, List.set_cons_succ, i64_w, i32_w]
                      rfl
                     refine pure_ (i := 5) (N := some 66) (v := ?_) (a' := ?_) #[true, true, false, false, true, true, false, false, false] rfl rfl (any_of HT_.out (by kernel_rfl)) (fun _ _ _ h => h) (Or.inl ⟨by rfl, ?_⟩) ?_ ?_
                     rotate_left
                     ·intro w'
                      go_simp
                      with_reducible rfl
                     rotate_left
                     ·simp only [Act.put, List.setIfInBounds_toArray, List.set_cons_zero, List.set_cons_succ, i64_w, i32_w]
                      rfl
                     refine pure_ (i := 6) (N := some 67) (v := ?_) (a' := ?_) #[true, true, false, false, true, true, true, false, false] rfl rfl (any_of HT_.out (by kernel_rfl)) (fun _ _ _ h => h) (Or.inl ⟨by rfl, ?_⟩) ?_ ?_
                     rotate_left
                     ·intro w'
                      go_simp
                      with_reducible rfl
                     rotate_left
                     ·simp only [Act.put, List.setIfInBounds_toArray, List.set_cons_zero, List.set_cons_succ, i64_w, i32_w]
                      rfl
                     refine one_ (i := 2) (N := some 63) #[true, true, true, false, true, true, true, false, false] rfl rfl (one_of HT_.out (by kernel_rfl)) (by decide) (fun K hK => ?_)
                     refine value_ (w1 := ?_) (v := ?_) (by rfl) rfl ?_ ?_
                     rotate_left 2
                     ·go_simp
                      constructor
                      ·rfl
                      ·rfl
                     refine hK.out _ _ trivial (fun hHeld => ?_)
                     clear hK K
                     refine norm_ (a' := ?_) ?_ ?_
                     rotate_left
                     ·show Act.put _ (some 63) _ = _
                      simp only [Act.put, List.setIfInBounds_toArray, List.set_cons_zero, List.set_cons_succ, i64_w, i32_w]
                      rfl
                     refine one_ (i := 3) (N := some 64) #[true, true, true, true, true, true, true, false, false] rfl rfl (one_of HT_.out (by kernel_rfl)) (by decide) (fun K hK => ?_)
                     refine Kd.R_append_step (Kd.int .i64) (w0 := w) w.heap.size (by rfl) (.tmp 61) (.tmp 63) 56 3 (.int .i64 0) 8 rfl Try.underlying56 info3 rfl (by decide) (by omega) v206 y205 (pick2 x27_2 ((rd_T24 l0 x12_1).f0) (wrap64 (((rd_T24 l0 x12_1).f0) + ((rd_T24 l0 x12_1).f1)))) [.int .i64 (pick2 x27_2 ((rd_T24 l0 x12_1).f0) (wrap64 (((rd_T24 l0 x12_1).f0) + ((rd_T24 l0 x12_1).f1))))] (fun k_ => some k_ ≠ (.slice (some ad196) x3_2.length co25 : Value).ownBlock) (fun _ => False) rfl rfl ?aP (fun _ hk => hk.elim) ?aF ?aO ?aB ?aS ?aL ?_
                     (case aP => exact rfl)
                     (case aB => exact (by repeat (first | (with_reducible first | exact HB.out | apply below_alloc | apply pw_below_drewN | apply below_drew1 | refine below_set ?_ GE195.out) | exact HB.out)))
                     (case aF => exact (fun k_ hk => Kd.fresh' (Kd.R_lt (by (with_reducible repeat (first | apply Kd.R_alloc | apply Kd.R_drewN | apply Kd.R_drew)); exact HO_3.out)) k_ hk))
                     (case aO => exact (by (with_reducible repeat (first | apply Kd.R_alloc | apply Kd.R_drewN | apply Kd.R_drew)); exact HO207.out))
                     (case aS => exact (below_size (by repeat (first | (with_reducible first | exact HB.out | apply below_alloc | apply pw_below_drewN | apply below_drew1 | refine below_set ?_ GE195.out) | exact HB.out))))
                     (case aL => have := LMc21.out; omega)
                     intro v209 w32 ho hb hg hat
                     rw [← Ny208.out] at ho
                     have n0_ := Aside0.mk (Kd.R_after (ok := (fun _ => True)) (by (with_reducible repeat (first | apply Kd.R_alloc | apply Kd.R_drewN | apply Kd.R_drew)); exact HO_3.out) hg hat)
                     have n1_ := Aside0.mk (blk_grown (g := gb195) (o := .cells #[.int .i64 ((rd_T24 l0 x12_1).f0), .int .i64 ((rd_T24 l0 x12_1).f1)] 24 (0, 0)) (by (with_reducible repeat (first | refine blk_drewN ?_ _ | refine blk_drew ?_ | refine blk_alloc ?_ _)); exact BK195.out) hg (Kd.R_ne HO207.out BK195.out (by decide)))
                     have n2_ := Aside0.mk (hb)
                     have n3_ := Aside0.mk ((show Kd.C (Kd.int .i64) w32 (some ad196) y201.length y201 from by rw [Ny201.out]; exact Kd.C_take (m := (x8_3 : Int).toNat) ((Kd.R_reads' (Kd.R_after (ok := (fun _ => True)) (by (with_reducible repeat (first | apply Kd.R_alloc | apply Kd.R_drewN | apply Kd.R_drew)); exact HO_3.out) hg hat)).2.2) KL28.out))
                     have n4_ := Aside0.mk ((show Kd.C (Kd.int .i64) w32 A31 y211.length y211 from by rw [Ny211.out, KA31.out]; exact Kd.C_drop (m := (x8_3 : Int).toNat) (c := co25) ((Kd.R_reads' (Kd.R_after (ok := (fun _ => True)) (by (with_reducible repeat (first | apply Kd.R_alloc | apply Kd.R_drewN | apply Kd.R_drew)); exact HO_3.out) hg hat)).2.2) KL31.out ((Kd.R_reads' (Kd.R_after (ok := (fun _ => True)) (by (with_reducible repeat (first | apply Kd.R_alloc | apply Kd.R_drewN | apply Kd.R_drew)); exact HO_3.out) hg hat)).2.1)))
                     have n5_ := Aside0.mk (ho)
                     clear HO_3
                     clear BK195
                     clear HB
                     clear HR204
                     clear HR214
                     clear HO207
                     have HO_3 := n0_
                     have BK195 := n1_
                     have HB := n2_
                     have HR204 := n3_
                     have HR214 := n4_
                     have HO210 := n5_
                     clear n0_ n1_ n2_ n3_ n4_ n5_
                     clear ho hb hg hat
                     refine hK.out _ _ trivial (fun hHeld => ?_)
                     clear hK K
                     refine norm_ (a' := ?_) ?_ ?_
                     rotate_left
                     ·show Act.put _ (some 64) _ = _
                      simp only [Act.put, List.setIfInBounds_toArray, List.set_cons_zero, List.set_cons_succ, i64_w, i32_w]
                      rfl
                     refine one_ (i := 7) (N := some 68) #[true, true, true, true, true, true, true, true, false] rfl rfl (one_of HT_.out (by kernel_rfl)) (by decide) (fun K hK => ?_)
                     refine Kd.R_append_rows_step (Kd.int .i64) (w0 := w) w.heap.size (by rfl) (.tmp 64) (.tmp 67) 56 3 (.int .i64 0) 8 rfl Try.underlying56 info3 rfl (by decide) (by omega) v209 y208 y211 _ _ _ (fun k_ => some k_ ≠ (.slice (some ad196) x3_2.length co25 : Value).ownBlock) (fun _ => False) rfl rfl ?aO ?aR (fun _ _ h => h) (fun _ h => h.elim) ?aF ?aB ?aS ?aL ?_
                     (case aR => repeat (first | exact (by repeat (first | (with_reducible exact HR214.out) | (with_reducible refine Kd.C_alloc ?_ _) | (with_reducible refine Kd.C_drewN ?_ _) | (with_reducible refine Kd.C_drew ?_) | exact HR214.out)) | (with_reducible refine Kd.C_alloc ?_ _) | (with_reducible refine Kd.C_drewN ?_ _) | (with_reducible refine Kd.C_drew ?_)))
                     (case aB => exact (by repeat (first | (with_reducible first | exact HB.out | apply below_alloc | apply pw_below_drewN | apply below_drew1 | refine below_set ?_ GE195.out) | exact HB.out)))
                     (case aF => exact (fun k_ hk => Kd.fresh' (Kd.R_lt (by (with_reducible repeat (first | apply Kd.R_alloc | apply Kd.R_drewN | apply Kd.R_drew)); exact HO_3.out)) k_ hk))
                     (case aO => exact (by (with_reducible repeat (first | apply Kd.R_alloc | apply Kd.R_drewN | apply Kd.R_drew)); exact HO210.out))
                     (case aS => exact (below_size (by repeat (first | (with_reducible first | exact HB.out | apply below_alloc | apply pw_below_drewN | apply below_drew1 | refine below_set ?_ GE195.out) | exact HB.out))))
                     (case aL => have := LMc24.out; omega)
                     intro v216 w33 ho hb hg hat
                     rw [← Ny215.out] at ho
                     have n0_ := Aside0.mk (Kd.R_after (ok := (fun _ => True)) (by (with_reducible repeat (first | apply Kd.R_alloc | apply Kd.R_drewN | apply Kd.R_drew)); exact HO_3.out) hg hat)
                     have n1_ := Aside0.mk (blk_grown (g := gb195) (o := .cells #[.int .i64 ((rd_T24 l0 x12_1).f0), .int .i64 ((rd_T24 l0 x12_1).f1)] 24 (0, 0)) (by (with_reducible repeat (first | refine blk_drewN ?_ _ | refine blk_drew ?_ | refine blk_alloc ?_ _)); exact BK195.out) hg (Kd.R_ne HO210.out BK195.out (by decide)))
                     have n2_ := Aside0.mk (hb)
                     have n3_ := Aside0.mk ((show Kd.C (Kd.int .i64) w33 (some ad196) y201.length y201 from by rw [Ny201.out]; exact Kd.C_take (m := (x8_3 : Int).toNat) ((Kd.R_reads' (Kd.R_after (ok := (fun _ => True)) (by (with_reducible repeat (first | apply Kd.R_alloc | apply Kd.R_drewN | apply Kd.R_drew)); exact HO_3.out) hg hat)).2.2) KL28.out))
                     have n4_ := Aside0.mk ((show Kd.C (Kd.int .i64) w33 A31 y211.length y211 from by rw [Ny211.out, KA31.out]; exact Kd.C_drop (m := (x8_3 : Int).toNat) (c := co25) ((Kd.R_reads' (Kd.R_after (ok := (fun _ => True)) (by (with_reducible repeat (first | apply Kd.R_alloc | apply Kd.R_drewN | apply Kd.R_drew)); exact HO_3.out) hg hat)).2.2) KL31.out ((Kd.R_reads' (Kd.R_after (ok := (fun _ => True)) (by (with_reducible repeat (first | apply Kd.R_alloc | apply Kd.R_drewN | apply Kd.R_drew)); exact HO_3.out) hg hat)).2.1)))
                     have n5_ := Aside0.mk (ho)
                     clear HO_3
                     clear BK195
                     clear HB
                     clear HR204
                     clear HR214
                     clear HO210
                     have HO_3 := n0_
                     have BK195 := n1_
                     have HB := n2_
                     have HR204 := n3_
                     have HR214 := n4_
                     have HO217 := n5_
                     clear n0_ n1_ n2_ n3_ n4_ n5_
                     clear ho hb hg hat
                     refine hK.out _ _ trivial (fun hHeld => ?_)
                     clear hK K
                     refine norm_ (a' := ?_) ?_ ?_
                     rotate_left
                     ·show Act.put _ (some 68) _ = _
                      simp only [Act.put, List.setIfInBounds_toArray, List.set_cons_zero, List.set_cons_succ, i64_w, i32_w]
                      rfl
                     refine pure_ (i := 8) (N := some 3) (v := ?_) (a' := ?_) #[true, true, true, true, true, true, true, true, true] rfl rfl (any_of HT_.out (by kernel_rfl)) (fun _ _ _ h => h) (Or.inl ⟨by rfl, ?_⟩) ?_ ?_
                     rotate_left
                     ·intro w'
                      go_simp
                      with_reducible rfl
                     rotate_left
                     ·simp only [Act.put, List.setIfInBounds_toArray, List.set_cons_zero, List.set_cons_succ, i64_w, i32_w]
                      rfl
                     refine done_ (done_of HT_.out (by kernel_rfl)) ?_
                     try go_wp2
                     go_roundg k3
                     case measure => have := HK1.out; have := HK2.out; have := HK3.out; omega
                     case rel => exact ⟨(y215), (wrap64 (x27_2 + 1)), (by first | rfl | (simp; done) | (simp [*]; done)), H', ⟨by have := HK1.out; have := HK2.out; have := HK3.out; omega⟩, ⟨by (with_reducible repeat (first | apply Kd.R_alloc | apply Kd.R_drewN | apply Kd.R_drew)); exact Kd.R_mono HO217.out (fun _ hk => trivial)⟩, ⟨by (with_reducible repeat (first | refine blk_drewN ?_ _ | refine blk_drew ?_ | refine blk_alloc ?_ _)); exact BK195.out⟩, ⟨by repeat (first | (with_reducible first | exact HB.out | apply below_alloc | apply pw_below_drewN | apply below_drew1 | refine below_set ?_ GE195.out) | exact HB.out)⟩⟩
                    ·rw [if_neg c24] at H
                     exact absurd H (by simp)
                   ·rw [if_neg c21] at H
                    exact absurd H (by simp)
                  ·rw [if_neg c20] at H
                   exact absurd H (by simp)
                 ·rw [if_neg c19] at H
                  exact absurd H (by simp)
              ·rw [if_neg c13] at H
               exact absurd H (by simp)
             ·rw [if_neg c12] at H
              have c12b0 : decide (x8_3 < (x3_2.length : Int)) = false := decide_eq_false c12
              clear c12
              obtain ⟨y218, hy218⟩ : ∃ y_ : List Int, y_ = (([] : List Int)) := ⟨_, rfl⟩
              replace H : (if 0 ≤ x8_3 then (if x8_3 ≤ (x3_2.length : Int) then ((some (x3_2.take (x8_3 : Int).toNat : List Int)).bind fun y221 => (if y218.length + y221.length < 17592186044416 then ((some (y218 ++ y221 : List Int)).bind fun y225 => (if y225.length < 17592186044416 then ((some (y225 ++ [(pick2 x27_2 ((rd_T24 l0 x12_1).f0) (wrap64 (((rd_T24 l0 x12_1).f0) + ((rd_T24 l0 x12_1).f1))))] : List Int)).bind fun y228 => ((some (x3_2.drop (x8_3 : Int).toNat : List Int)).bind fun y231 => (if y228.length + y231.length < 17592186044416 then (spec_rangeMarks.l1 k3 (y228 ++ y231) l0 (l0.length : Int) x12_1 (wrap64 (x27_2 + 1)) ((rd_T24 l0 x12_1).f0) (wrap64 (((rd_T24 l0 x12_1).f0) + ((rd_T24 l0 x12_1).f1)))) else (none)))) else (none))) else (none))) else (none)) else (none)) = some r := by first | (rw [hy218]; with_reducible exact H) | (have H2_ := (Option.bind_some _ _).symm.trans H; rw [hy218]; with_reducible exact H2_) | (have H2_ := (Option.bind_some _ _).symm.trans H; with_reducible exact H2_) | with_reducible exact H | (rw [hy218]; exact H) | exact H
              have Ny218 := Aside0.mk hy218
              clear hy218
              by_cases c34 : 0 ≤ x8_3
              ·rw [if_pos c34] at H
               have c34b0 := eq_true c34
               have c34b1 : decide (0 ≤ x8_3) = true := decide_eq_true c34
               clear c34
               by_cases c35 : x8_3 ≤ (x3_2.length : Int)
               ·rw [if_pos c35] at H
                have c35b0 := eq_true c35
                have c35b1 : decide (x8_3 ≤ (x3_2.length : Int)) = true := decide_eq_true c35
                clear c35
                obtain ⟨y221, hy221⟩ : ∃ y_ : List Int, y_ = (x3_2.take (x8_3 : Int).toNat) := ⟨_, rfl⟩
                replace H : (if y218.length + y221.length < 17592186044416 then ((some (y218 ++ y221 : List Int)).bind fun y225 => (if y225.length < 17592186044416 then ((some (y225 ++ [(pick2 x27_2 ((rd_T24 l0 x12_1).f0) (wrap64 (((rd_T24 l0 x12_1).f0) + ((rd_T24 l0 x12_1).f1))))] : List Int)).bind fun y228 => ((some (x3_2.drop (x8_3 : Int).toNat : List Int)).bind fun y231 => (if y228.length + y231.length < 17592186044416 then (spec_rangeMarks.l1 k3 (y228 ++ y231) l0 (l0.length : Int) x12_1 (wrap64 (x27_2 + 1)) ((rd_T24 l0 x12_1).f0) (wrap64 (((rd_T24 l0 x12_1).f0) + ((rd_T24 l0 x12_1).f1)))) else (none)))) else (none))) else (none)) = some r := by first | (rw [hy221]; with_reducible exact H) | (have H2_ := (Option.bind_some _ _).symm.trans H; rw [hy221]; with_reducible exact H2_) | (have H2_ := (Option.bind_some _ _).symm.trans H; with_reducible exact H2_) | with_reducible exact H | (rw [hy221]; exact H) | exact H
                have Ny221 := Aside0.mk hy221
                clear hy221
                by_cases c36 : y218.length + y221.length < 17592186044416
                ·rw [if_pos c36] at H
                 have LMc36 := Aside0.mk c36
                 clear c36
                 obtain ⟨y225, hy225⟩ : ∃ y_ : List Int, y_ = (y218 ++ y221) := ⟨_, rfl⟩
                 replace H : (if y225.length < 17592186044416 then ((some (y225 ++ [(pick2 x27_2 ((rd_T24 l0 x12_1).f0) (wrap64 (((rd_T24 l0 x12_1).f0) + ((rd_T24 l0 x12_1).f1))))] : List Int)).bind fun y228 => ((some (x3_2.drop (x8_3 : Int).toNat : List Int)).bind fun y231 => (if y228.length + y231.length < 17592186044416 then (spec_rangeMarks.l1 k3 (y228 ++ y231) l0 (l0.length : Int) x12_1 (wrap64 (x27_2 + 1)) ((rd_T24 l0 x12_1).f0) (wrap64 (((rd_T24 l0 x12_1).f0) + ((rd_T24 l0 x12_1).f1)))) else (none)))) else (none)) = some r := by first | (rw [hy225]; with_reducible exact H) | (have H2_ := (Option.bind_some _ _).symm.trans H; rw [hy225]; with_reducible exact H2_) | (have H2_ := (Option.bind_some _ _).symm.trans H; with_reducible exact H2_) | with_reducible exact H | (rw [hy225]; exact H) | exact H
                 have Ny225 := Aside0.mk hy225
                 clear hy225
                 by_cases c37 : y225.length < 17592186044416
                 ·rw [if_pos c37] at H
                  have LMc37 := Aside0.mk c37
                  clear c37
                  obtain ⟨y228, hy228⟩ : ∃ y_ : List Int, y_ = (y225 ++ [(pick2 x27_2 ((rd_T24 l0 x12_1).f0) (wrap64 (((rd_T24 l0 x12_1).f0) + ((rd_T24 l0 x12_1).f1))))]) := ⟨_, rfl⟩
                  replace H : ((some (x3_2.drop (x8_3 : Int).toNat : List Int)).bind fun y231 => (if y228.length + y231.length < 17592186044416 then (spec_rangeMarks.l1 k3 (y228 ++ y231) l0 (l0.length : Int) x12_1 (wrap64 (x27_2 + 1)) ((rd_T24 l0 x12_1).f0) (wrap64 (((rd_T24 l0 x12_1).f0) + ((rd_T24 l0 x12_1).f1)))) else (none))) = some r := by first | (rw [hy228]; with_reducible exact H) | (have H2_ := (Option.bind_some _ _).symm.trans H; rw [hy228]; with_reducible exact H2_) | (have H2_ := (Option.bind_some _ _).symm.trans H; with_reducible exact H2_) | with_reducible exact H | (rw [hy228]; exact H) | exact H
                  have Ny228 := Aside0.mk hy228
                  clear hy228
                  have c38b0 := eq_true (of_decide_eq_true (by first | (with_reducible assumption) | assumption) : 0 ≤ x8_3)
                  have c39b0 := eq_true (of_decide_eq_true (by first | (with_reducible assumption) | assumption) : x8_3 ≤ (x3_2.length : Int))
                  obtain ⟨y231, hy231⟩ : ∃ y_ : List Int, y_ = (x3_2.drop (x8_3 : Int).toNat) := ⟨_, rfl⟩
                  replace H : (if y228.length + y231.length < 17592186044416 then (spec_rangeMarks.l1 k3 (y228 ++ y231) l0 (l0.length : Int) x12_1 (wrap64 (x27_2 + 1)) ((rd_T24 l0 x12_1).f0) (wrap64 (((rd_T24 l0 x12_1).f0) + ((rd_T24 l0 x12_1).f1)))) else (none)) = some r := by first | (rw [hy231]; with_reducible exact H) | (have H2_ := (Option.bind_some _ _).symm.trans H; rw [hy231]; with_reducible exact H2_) | (have H2_ := (Option.bind_some _ _).symm.trans H; with_reducible exact H2_) | with_reducible exact H | (rw [hy231]; exact H) | exact H
                  have Ny231 := Aside0.mk hy231
                  clear hy231
                  by_cases c40 : y228.length + y231.length < 17592186044416
                  ·rw [if_pos c40] at H
                   have LMc40 := Aside0.mk c40
                   clear c40
                   obtain ⟨y235, hy235⟩ : ∃ y_ : List Int, y_ = (y228 ++ y231) := ⟨_, rfl⟩
                   replace H : (spec_rangeMarks.l1 k3 y235 l0 (l0.length : Int) x12_1 (wrap64 (x27_2 + 1)) ((rd_T24 l0 x12_1).f0) (wrap64 (((rd_T24 l0 x12_1).f0) + ((rd_T24 l0 x12_1).f1)))) = some r := by first | (rw [hy235]; with_reducible exact H) | (have H2_ := (Option.bind_some _ _).symm.trans H; rw [hy235]; with_reducible exact H2_) | (have H2_ := (Option.bind_some _ _).symm.trans H; with_reducible exact H2_) | with_reducible exact H | (rw [hy235]; exact H) | exact H
                   have Ny235 := Aside0.mk hy235
                   clear hy235
                   have H' := Aside0.mk H
                   clear H
                   obtain ⟨Ao41, co41, eo41⟩ := Kd.R_slice HO_3.out
                   subst eo41
                   try go_wp2_with (first | ((with_reducible refine gate_dst (N := 56) rfl ?_); refine Kd.R_lit (Kd.int .i64) _ 3 ?hg (N := 56) ?hd (xs := ([] : List Int)) (inner := []) (ok := fun _ => True) (okp := fun _ => True) ?hr ?hp (fun _ hk => hk) trivial (Below.refl _ _) (Nat.le_refl _) (by simp) ?_; (case hd => rfl); (case hg => rfl); (case hr => first | (go_simp; done) | (go_simp; rfl)); (case hp => exact (Reps.none _ _)); intro v219 w42 ho43 hb hg_ hnew_; clear hg_ hnew_; (first | rw [← Ny218.out] at ho43 | (simp only [Int.reduceToNat] at ho43; rw [← Ny218.out] at ho43)); have n0_ := Aside0.mk (Kd.R_elder' (by (with_reducible repeat (first | apply Kd.R_alloc | apply Kd.R_drewN | apply Kd.R_drew)); exact HO_3.out) (Kd.R_base ho43) hb); have n1_ := Aside0.mk (Kd.R_lower (Kd.R_new' ho43 (Kd.R_lt (by (with_reducible repeat (first | apply Kd.R_alloc | apply Kd.R_drewN | apply Kd.R_drew)); exact HO_3.out))) (below_size (by repeat (first | (with_reducible first | exact HB.out | apply below_alloc | apply pw_below_drewN | apply below_drew1 | refine below_set ?_ GE195.out) | exact HB.out)))); have n2_ := Aside0.mk (blk_below (g := gb195) (o := .cells #[.int .i64 ((rd_T24 l0 x12_1).f0), .int .i64 ((rd_T24 l0 x12_1).f1)] 24 (0, 0)) (by (with_reducible repeat (first | refine blk_drewN ?_ _ | refine blk_drew ?_ | refine blk_alloc ?_ _)); exact BK195.out) hb); have n3_ := Aside0.mk (below_step (by repeat (first | (with_reducible first | exact HB.out | apply below_alloc | apply pw_below_drewN | apply below_drew1 | refine below_set ?_ GE195.out) | exact HB.out)) hb); clear HO_3; clear BK195; clear HB; have HO_3 := n0_; have HO220 := n1_; have BK195 := n2_; have HB := n3_; clear n0_ n1_ n2_ n3_; clear hb ho43; have q44 : (x8_3 : Int) ≤ ((x3_2.length : Int) : Int) := of_decide_eq_true (by first | (with_reducible assumption) | assumption); obtain ⟨i044, hi044, _, hsz44, _⟩ := info_parts info3; have hroom44 : x3_2.length ≤ co41 := (Kd.R_reads' HO_3.out).2.1; have hC44 : Kd.C (Kd.int .i64) _ Ao41 x3_2.length x3_2 := (Kd.R_reads' HO_3.out).2.2; have hcut44 := cut_to (P := Try.prog) 56 3 .i64 Try.underlying56 hi044 Ao41 x3_2.length co41 x8_3 (of_decide_eq_true (by first | (with_reducible assumption) | assumption)) q44 hroom44; have hr44 := Kd.C_take (m := (x8_3 : Int).toNat) hC44 (by omega); have hy44 : y221.length = (x8_3 : Int).toNat := (by rw [Ny221.out, List.length_take]; omega); rw [← Ny221.out] at hr44; rw [← hy44] at hcut44; have HR224 := Aside0.mk hr44; have HC224 := Aside0.mk (show y221.length ≤ co41 from by omega); clear hr44 hC44 hroom44 hi044 hsz44; have KY44 := Aside0.mk hy44; clear hy44; have KL44 := Aside0.mk (show (x8_3 : Int).toNat ≤ x3_2.length from by omega); replace q44 := eq_true q44) | (at_builtin; refine Kd.R_append_rows (Kd.int .i64) (w0 := w) w.heap.size rfl (.tmp 56) (.tmp 59) 56 3 (.int .i64 0) 8 rfl Try.underlying56 info3 rfl (by decide) (by omega) v219 y218 y221 _ _ _ (fun k_ => some k_ ≠ (.slice Ao41 x3_2.length co41 : Value).ownBlock) (fun _ => False) rfl rfl ?aO ?aR (fun _ _ h => h) (fun _ h => h.elim) ?aF ?aB ?aS ?aL ?_; (case aR => repeat (first | exact (by repeat (first | (with_reducible exact HR224.out) | (with_reducible refine Kd.C_alloc ?_ _) | (with_reducible refine Kd.C_drewN ?_ _) | (with_reducible refine Kd.C_drew ?_) | exact HR224.out)) | (with_reducible refine Kd.C_alloc ?_ _) | (with_reducible refine Kd.C_drewN ?_ _) | (with_reducible refine Kd.C_drew ?_))); (case aB => exact (by repeat (first | (with_reducible first | exact HB.out | apply below_alloc | apply pw_below_drewN | apply below_drew1 | refine below_set ?_ GE195.out) | exact HB.out))); (case aF => exact (fun k_ hk => Kd.fresh' (Kd.R_lt (by (with_reducible repeat (first | apply Kd.R_alloc | apply Kd.R_drewN | apply Kd.R_drew)); exact HO_3.out)) k_ hk)); (case aO => exact (by (with_reducible repeat (first | apply Kd.R_alloc | apply Kd.R_drewN | apply Kd.R_drew)); exact Kd.R_mono HO220.out (fun _ hk => hk.2))); (case aS => exact (below_size (by repeat (first | (with_reducible first | exact HB.out | apply below_alloc | apply pw_below_drewN | apply below_drew1 | refine below_set ?_ GE195.out) | exact HB.out)))); (case aL => have := LMc36.out; omega); intro v226 w45 ho hb hg hat; rw [← Ny225.out] at ho; have n0_ := Aside0.mk (Kd.R_after (ok := (fun _ => True)) (by (with_reducible repeat (first | apply Kd.R_alloc | apply Kd.R_drewN | apply Kd.R_drew)); exact HO_3.out) hg hat); have n1_ := Aside0.mk (blk_grown (g := gb195) (o := .cells #[.int .i64 ((rd_T24 l0 x12_1).f0), .int .i64 ((rd_T24 l0 x12_1).f1)] 24 (0, 0)) (by (with_reducible repeat (first | refine blk_drewN ?_ _ | refine blk_drew ?_ | refine blk_alloc ?_ _)); exact BK195.out) hg (Kd.R_ne HO220.out BK195.out (by decide))); have n2_ := Aside0.mk (hb); have n3_ := Aside0.mk ((show Kd.C (Kd.int .i64) w45 Ao41 y221.length y221 from by rw [Ny221.out]; exact Kd.C_take (m := (x8_3 : Int).toNat) ((Kd.R_reads' (Kd.R_after (ok := (fun _ => True)) (by (with_reducible repeat (first | apply Kd.R_alloc | apply Kd.R_drewN | apply Kd.R_drew)); exact HO_3.out) hg hat)).2.2) KL44.out)); have n4_ := Aside0.mk (ho); clear HO_3; clear BK195; clear HB; clear HR224; clear HO220; have HO_3 := n0_; have BK195 := n1_; have HB := n2_; have HR224 := n3_; have HO227 := n4_; clear n0_ n1_ n2_ n3_ n4_; clear ho hb hg hat))
                   have n0_ := Aside0.mk (Kd.R_drew HO_3.out)
                   have n1_ := Aside0.mk (Kd.R_drew HO227.out)
                   have n2_ := Aside0.mk (blk_drew BK195.out)
                   have n3_ := Aside0.mk (Kd.C_drew HR224.out)
                   have n4_ := Aside0.mk (below_drew1 HB.out)
                   clear HO_3
                   clear HO227
                   clear BK195
                   clear HR224
                   clear HB
                   have HO_3 := n0_
                   have HO227 := n1_
                   have BK195 := n2_
                   have HR224 := n3_
                   have HB := n4_
                   clear n0_ n1_ n2_ n3_ n4_
                   have q47 : (x8_3 : Int) ≤ ((x3_2.length : Int) : Int) := of_decide_eq_true (by first | (with_reducible assumption) | assumption)
                   obtain ⟨i047, hi047, _, hsz47, _⟩ := info_parts info3
                   have hroom47 : x3_2.length ≤ co41 := (Kd.R_reads' HO_3.out).2.1
                   have hC47 : Kd.C (Kd.int .i64) _ Ao41 x3_2.length x3_2 := (Kd.R_reads' HO_3.out).2.2
                   have q047 : (0 : Int) ≤ (x8_3 : Int) := of_decide_eq_true (by first | (with_reducible assumption) | assumption)
                   have hcut47 := cut_from (P := Try.prog) 56 3 .i64 Try.underlying56 hi047 1 hsz47 Ao41 x3_2.length co41 x8_3 q047 q47
                   have hr47 := Kd.C_drop (m := (x8_3 : Int).toNat) (c := co41) hC47 (by omega) hroom47
                   obtain ⟨A47, hA47⟩ : ∃ A1, A1 = (if co41 = (x8_3 : Int).toNat then Ao41 else (Ao41 : Option Addr).map (·.add ((x8_3 : Int).toNat * 1))) := ⟨_, rfl⟩
                   obtain ⟨c47, hc47⟩ : ∃ c1, c1 = co41 - (x8_3 : Int).toNat := ⟨_, rfl⟩
                   have hy47 : y231.length = x3_2.length - (x8_3 : Int).toNat := (by rw [Ny231.out, List.length_drop] <;> omega)
                   rw [show (x3_2).drop (x8_3 : Int).toNat = y231 from Ny231.out.symm] at hr47
                   replace hr47 : Kd.C (Kd.int .i64) _ A47 y231.length y231 := (by rw [hA47]; exact hr47)
                   rw [← hy47, ← hA47, ← hc47] at hcut47
                   have HR234 := Aside0.mk hr47
                   have HC234 := Aside0.mk (show y231.length ≤ c47 from by rw [hy47, hc47]; exact Nat.sub_le_sub_right hroom47 _)
                   clear hr47 hC47 hroom47 hi047 hsz47 hc47
                   have KY47 := Aside0.mk hy47
                   have KA47 := Aside0.mk hA47
                   clear hy47 hA47
                   have KL47 := Aside0.mk (show (x8_3 : Int).toNat ≤ x3_2.length from by omega)
                   replace q47 := eq_true q47
                   refine start_ (n := 9) (S := fun w' => True) (ds := []) #[false, false, false, false, false, false, false, false, false] (by kernel_rfl) rfl rfl trivial (fun hHeld => ?_); refine with_tabW spec_rangeMarks.tab14 spec_rangeMarks.bits14 (fun HT_ HW_ => ?_)
                   generalize w45.drew = w46 at HO_3 HO227 BK195 HR224 HB HR234 hHeld ⊢
                   refine pure_ (i := 0) (N := some 61) (v := ?_) (a' := ?_) #[true, false, false, false, false, false, false, false, false] rfl rfl (any_of HT_.out (by kernel_rfl)) (fun _ _ _ h => h) (Or.inl ⟨by rfl, ?_⟩) ?_ ?_
                   rotate_left
                   ·intro w'
                    go_simp
                    with_reducible rfl
                   rotate_left
                   ·simp only [Act.put, List.setIfInBounds_toArray, List.set_cons_zero, List.set_cons_succ, i64_w, i32_w]
                    rfl
                   refine pure_ (i := 1) (N := some 62) (v := ?_) (a' := ?_) #[true, true, false, false, false, false, false, false, false] rfl rfl (any_of HT_.out (by kernel_rfl)) (fun _ _ _ h => h) (Or.inl ⟨by rfl, ?_⟩) ?_ ?_
                   rotate_left
                   ·intro w'
                    go_simp
                    with_reducible rfl
                   rotate_left
                   ·simp only [Act.put, List.setIfInBounds_toArray, List.set_cons_zero, List.set_cons_succ, i64_w, i32_w]
                    rfl
                   refine pure_ (i := 4) (N := some 65) (v := ?_) (a' := ?_) #[true, true, false, false, true, false, false, false, false] rfl rfl (any_of HT_.out (by kernel_rfl)) (fun _ _ _ h => h) (Or.inl ⟨by rfl, ?_⟩) ?_ ?_
                   rotate_left
                   ·intro w'
                    go_simp
                    with_reducible rfl
                   rotate_left
                   ·simp only [Act.put, List.setIfInBounds_toArray, List.set_cons_zero, List.set_cons_succ, i64_w, i32_w]
                    rfl
                   refine pure_ (i := 5) (N := some 66) (v := ?_) (a' := ?_) #[true, true, false, false, true, true, false, false, false] rfl rfl (any_of HT_.out (by kernel_rfl)) (fun _ _ _ h => h) (Or.inl ⟨by rfl, ?_⟩) ?_ ?_
                   rotate_left
                   ·intro w'
                    go_simp
                    with_reducible rfl
                   rotate_left
                   ·simp only [Act.put, List.setIfInBounds_toArray, List.set_cons_zero, List.set_cons_succ, i64_w, i32_w]
                    rfl
                   refine pure_ (i := 6) (N := some 67) (v := ?_) (a' := ?_) #[true, true, false, false, true, true, true, false, false] rfl rfl (any_of HT_.out (by kernel_rfl)) (fun _ _ _ h => h) (Or.inl ⟨by rfl, ?_⟩) ?_ ?_
                   rotate_left
                   ·intro w'
                    go_simp
                    with_reducible rfl
                   rotate_left
                   ·simp only [Act.put, List.setIfInBounds_toArray, List.set_cons_zero, List.set_cons_succ, i64_w, i32_w]
                    rfl
                   refine one_ (i := 2) (N := some 63) #[true, true, true, false, true, true, true, false, false] rfl rfl (one_of HT_.out (by kernel_rfl)) (by decide) (fun K hK => ?_)
                   refine value_ (w1 := ?_) (v := ?_) (by rfl) rfl ?_ ?_
                   rotate_left 2
                   ·go_simp
                    constructor
                    ·rfl
                    ·rfl
                   refine hK.out _ _ trivial (fun hHeld => ?_)
                   clear hK K
                   refine norm_ (a' := ?_) ?_ ?_
                   rotate_left
                   ·show Act.put _ (some 63) _ = _
                    simp only [Act.put, List.setIfInBounds_toArray, List.set_cons_zero, List.set_cons_succ, i64_w, i32_w]
                    rfl
                   refine one_ (i := 3) (N := some 64) #[true, true, true, true, true, true, true, false, false] rfl rfl (one_of HT_.out (by kernel_rfl)) (by decide) (fun K hK => ?_)
                   refine Kd.R_append_step (Kd.int .i64) (w0 := w) w.heap.size (by rfl) (.tmp 61) (.tmp 63) 56 3 (.int .i64 0) 8 rfl Try.underlying56 info3 rfl (by decide) (by omega) v226 y225 (pick2 x27_2 ((rd_T24 l0 x12_1).f0) (wrap64 (((rd_T24 l0 x12_1).f0) + ((rd_T24 l0 x12_1).f1)))) [.int .i64 (pick2 x27_2 ((rd_T24 l0 x12_1).f0) (wrap64 (((rd_T24 l0 x12_1).f0) + ((rd_T24 l0 x12_1).f1))))] (fun k_ => some k_ ≠ (.slice Ao41 x3_2.length co41 : Value).ownBlock) (fun _ => False) rfl rfl ?aP (fun _ hk => hk.elim) ?aF ?aO ?aB ?aS ?aL ?_
                   (case aP => exact rfl)
                   (case aB => exact (by repeat (first | (with_reducible first | exact HB.out | apply below_alloc | apply pw_below_drewN | apply below_drew1 | refine below_set ?_ GE195.out) | exact HB.out)))
                   (case aF => exact (fun k_ hk => Kd.fresh' (Kd.R_lt (by (with_reducible repeat (first | apply Kd.R_alloc | apply Kd.R_drewN | apply Kd.R_drew)); exact HO_3.out)) k_ hk))
                   (case aO => exact (by (with_reducible repeat (first | apply Kd.R_alloc | apply Kd.R_drewN | apply Kd.R_drew)); exact HO227.out))
                   (case aS => exact (below_size (by repeat (first | (with_reducible first | exact HB.out | apply below_alloc | apply pw_below_drewN | apply below_drew1 | refine below_set ?_ GE195.out) | exact HB.out))))
                   (case aL => have := LMc37.out; omega)
                   intro v229 w48 ho hb hg hat
                   rw [← Ny228.out] at ho
                   have n0_ := Aside0.mk (Kd.R_after (ok := (fun _ => True)) (by (with_reducible repeat (first | apply Kd.R_alloc | apply Kd.R_drewN | apply Kd.R_drew)); exact HO_3.out) hg hat)
                   have n1_ := Aside0.mk (blk_grown (g := gb195) (o := .cells #[.int .i64 ((rd_T24 l0 x12_1).f0), .int .i64 ((rd_T24 l0 x12_1).f1)] 24 (0, 0)) (by (with_reducible repeat (first | refine blk_drewN ?_ _ | refine blk_drew ?_ | refine blk_alloc ?_ _)); exact BK195.out) hg (Kd.R_ne HO227.out BK195.out (by decide)))
                   have n2_ := Aside0.mk (hb)
                   have n3_ := Aside0.mk ((show Kd.C (Kd.int .i64) w48 Ao41 y221.length y221 from by rw [Ny221.out]; exact Kd.C_take (m := (x8_3 : Int).toNat) ((Kd.R_reads' (Kd.R_after (ok := (fun _ => True)) (by (with_reducible repeat (first | apply Kd.R_alloc | apply Kd.R_drewN | apply Kd.R_drew)); exact HO_3.out) hg hat)).2.2) KL44.out))
                   have n4_ := Aside0.mk ((show Kd.C (Kd.int .i64) w48 A47 y231.length y231 from by rw [Ny231.out, KA47.out]; exact Kd.C_drop (m := (x8_3 : Int).toNat) (c := co41) ((Kd.R_reads' (Kd.R_after (ok := (fun _ => True)) (by (with_reducible repeat (first | apply Kd.R_alloc | apply Kd.R_drewN | apply Kd.R_drew)); exact HO_3.out) hg hat)).2.2) KL47.out ((Kd.R_reads' (Kd.R_after (ok := (fun _ => True)) (by (with_reducible repeat (first | apply Kd.R_alloc | apply Kd.R_drewN | apply Kd.R_drew)); exact HO_3.out) hg hat)).2.1)))
                   have n5_ := Aside0.mk (ho)
                   clear HO_3
                   clear BK195
                   clear HB
                   clear HR224
                   clear HR234
                   clear HO227
                   have HO_3 := n0_
                   have BK195 := n1_
                   have HB := n2_
                   have HR224 := n3_
                   have HR234 := n4_
                   have HO230 := n5_
                   clear n0_ n1_ n2_ n3_ n4_ n5_
                   clear ho hb hg hat
                   refine hK.out _ _ trivial (fun hHeld => ?_)
                   clear hK K
                   refine norm_ (a' := ?_) ?_ ?_
                   rotate_left
                   ·show Act.put _ (some 64) _ = _
                    simp only [Act.put, List.setIfInBounds_toArray, List.set_cons_zero, List.set_cons_succ, i64_w, i32_w]
                    rfl
                   refine one_ (i := 7) (N := some 68) #[true, true, true, true, true, true, true, true, false] rfl rfl (one_of HT_.out (by kernel_rfl)) (by decide) (fun K hK => ?_)
                   refine Kd.R_append_rows_step (Kd.int .i64) (w0 := w) w.heap.size (by rfl) (.tmp 64) (.tmp 67) 56 3 (.int .i64 0) 8 rfl Try.underlying56 info3 rfl (by decide) (by omega) v229 y228 y231 _ _ _ (fun k_ => some k_ ≠ (.slice Ao41 x3_2.length co41 : Value).ownBlock) (fun _ => False) rfl rfl ?aO ?aR (fun _ _ h => h) (fun _ h => h.elim) ?aF ?aB ?aS ?aL ?_
                   (case aR => repeat (first | exact (by repeat (first | (with_reducible exact HR234.out) | (with_reducible refine Kd.C_alloc ?_ _) | (with_reducible refine Kd.C_drewN ?_ _) | (with_reducible refine Kd.C_drew ?_) | exact HR234.out)) | (with_reducible refine Kd.C_alloc ?_ _) | (with_reducible refine Kd.C_drewN ?_ _) | (with_reducible refine Kd.C_drew ?_)))
                   (case aB => exact (by repeat (first | (with_reducible first | exact HB.out | apply below_alloc | apply pw_below_drewN | apply below_drew1 | refine below_set ?_ GE195.out) | exact HB.out)))
                   (case aF => exact (fun k_ hk => Kd.fresh' (Kd.R_lt (by (with_reducible repeat (first | apply Kd.R_alloc | apply Kd.R_drewN | apply Kd.R_drew)); exact HO_3.out)) k_ hk))
                   (case aO => exact (by (with_reducible repeat (first | apply Kd.R_alloc | apply Kd.R_drewN | apply Kd.R_drew)); exact HO230.out))
                   (case aS => exact (below_size (by repeat (first | (with_reducible first | exact HB.out | apply below_alloc | apply pw_below_drewN | apply below_drew1 | refine below_set ?_ GE195.out) | exact HB.out))))
                   (case aL => have := LMc40.out; omega)
                   intro v236 w49 ho hb hg hat
                   rw [← Ny235.out] at ho
                   have n0_ := Aside0.mk (Kd.R_after (ok := (fun _ => True)) (by (with_reducible repeat (first | apply Kd.R_alloc | apply Kd.R_drewN | apply Kd.R_drew)); exact HO_3.out) hg hat)
                   have n1_ := Aside0.mk (blk_grown (g := gb195) (o := .cells #[.int .i64 ((rd_T24 l0 x12_1).f0), .int .i64 ((rd_T24 l0 x12_1).f1)] 24 (0, 0)) (by (with_reducible repeat (first | refine blk_drewN ?_ _ | refine blk_drew ?_ | refine blk_alloc ?_ _)); exact BK195.out) hg (Kd.R_ne HO230.out BK195.out (by decide)))
                   have n2_ := Aside0.mk (hb)
                   have n3_ := Aside0.mk ((show Kd.C (Kd.int .i64) w49 Ao41 y221.length y221 from by rw [Ny221.out]; exact Kd.C_take (m := (x8_3 : Int).toNat) ((Kd.R_reads' (Kd.R_after (ok := (fun _ => True)) (by (with_reducible repeat (first | apply Kd.R_alloc | apply Kd.R_drewN | apply Kd.R_drew)); exact HO_3.out) hg hat)).2.2) KL44.out))
                   have n4_ := Aside0.mk ((show Kd.C (Kd.int .i64) w49 A47 y231.length y231 from by rw [Ny231.out, KA47.out]; exact Kd.C_drop (m := (x8_3 : Int).toNat) (c := co41) ((Kd.R_reads' (Kd.R_after (ok := (fun _ => True)) (by (with_reducible repeat (first | apply Kd.R_alloc | apply Kd.R_drewN | apply Kd.R_drew)); exact HO_3.out) hg hat)).2.2) KL47.out ((Kd.R_reads' (Kd.R_after (ok := (fun _ => True)) (by (with_reducible repeat (first | apply Kd.R_alloc | apply Kd.R_drewN | apply Kd.R_drew)); exact HO_3.out) hg hat)).2.1)))
                   have n5_ := Aside0.mk (ho)
                   clear HO_3
                   clear BK195
                   clear HB
                   clear HR224
                   clear HR234
                   clear HO230
                   have HO_3 := n0_
                   have BK195 := n1_
                   have HB := n2_
                   have HR224 := n3_
                   have HR234 := n4_
                   have HO237 := n5_
                   clear n0_ n1_ n2_ n3_ n4_ n5_
                   clear ho hb hg hat
                   refine hK.out _ _ trivial (fun hHeld => ?_)
                   clear hK K
                   refine norm_ (a' := ?_) ?_ ?_
                   rotate_left
                   ·show Act.put _ (some 68) _ = _
                    simp only [Act.put, List.setIfInBounds_toArray, List.set_cons_zero, List.set_cons_succ, i64_w, i32_w]
                    rfl
                   refine pure_ (i := 8) (N := some 3) (v := ?_) (a' := ?_) #[true, true, true, true, true, true, true, true, true] rfl rfl (any_of HT_.out (by kernel_rfl)) (fun _ _ _ h => h) (Or.inl ⟨by rfl, ?_⟩) ?_ ?_
                   rotate_left
                   ·intro w'
                    go_simp
                    with_reducible rfl
                   rotate_left
                   ·simp only [Act.put, List.setIfInBounds_toArray, List.set_cons_zero, List.set_cons_succ, i64_w, i32_w]
                    rfl
                   refine done_ (done_of HT_.out (by kernel_rfl)) ?_
                   try go_wp2
                   go_roundg k3
                   case measure => have := HK1.out; have := HK2.out; have := HK3.out; omega
                   case rel => exact ⟨(y235), (wrap64 (x27_2 + 1)), (by first | rfl | (simp; done) | (simp [*]; done)), H', ⟨by have := HK1.out; have := HK2.out; have := HK3.out; omega⟩, ⟨by (with_reducible repeat (first | apply Kd.R_alloc | apply Kd.R_drewN | apply Kd.R_drew)); exact Kd.R_mono HO237.out (fun _ hk => trivial)⟩, ⟨by (with_reducible repeat (first | refine blk_drewN ?_ _ | refine blk_drew ?_ | refine blk_alloc ?_ _)); exact BK195.out⟩, ⟨by repeat (first | (with_reducible first | exact HB.out | apply below_alloc | apply pw_below_drewN | apply below_drew1 | refine below_set ?_ GE195.out) | exact HB.out)⟩⟩
                  ·rw [if_neg c40] at H
                   exact absurd H (by simp)
                 ·rw [if_neg c37] at H
                  exact absurd H (by simp)
                ·rw [if_neg c36] at H
                 exact absurd H (by simp)
               ·rw [if_neg c35] at H
                exact absurd H (by simp)
              ·rw [if_neg c34] at H
               exact absurd H (by simp)
          ·rw [if_neg c11] at H
           exact absurd H (by simp)
         ·rw [if_neg c10] at H
          have c10b0 : decide (x27_2 < 2) = false := decide_eq_false c10
          clear c10
          have H' := Aside0.mk H
          clear H
          go_wp2
          go_roundg k2
          case measure => have := HK1.out; have := HK2.out; omega
          case rel => exact ⟨(x3_2), (wrap64 (x12_1 + 1)), (by first | rfl | (simp; done) | (simp [*]; done)), H', ⟨by have := HK1.out; have := HK2.out; omega⟩, ⟨by (with_reducible repeat (first | apply Kd.R_alloc | apply Kd.R_drewN | apply Kd.R_drew)); exact HO_3.out⟩, ⟨by repeat (first | (with_reducible first | exact HB.out | apply below_alloc | apply pw_below_drewN | apply below_drew1 | refine below_set ?_ GE195.out) | exact HB.out)⟩⟩
     ·rw [if_neg c4] at H
      exact absurd H (by simp)
    ·rw [if_neg c3] at H
     exact absurd H (by simp)
   ·rw [if_neg c2] at H
    have c2b0 : decide (x12_1 < (l0.length : Int)) = false := decide_eq_false c2
    clear c2
    obtain rfl := Option.some.inj H
    go_wp2
    go_ret
    exact ⟨_, by first | rfl | (simp [errW_none, errW_some] <;> rfl) | (simp [*, errW_none, errW_some] <;> rfl), by (with_reducible repeat (first | apply Kd.R_alloc | apply Kd.R_drewN | apply Kd.R_drew)); exact HO_3.out, by repeat (first | (with_reducible first | exact HB.out | apply below_alloc | apply pw_below_drewN | apply below_drew1) | exact HB.out)⟩

end Go.Proofs.Ytmkhkkfliecfdaa.PT
