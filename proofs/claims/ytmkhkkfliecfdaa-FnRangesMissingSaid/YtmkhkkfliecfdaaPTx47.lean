-- Written by a program of this session. -- slim
import Derived.Test.YtmkhkkfliecfdaaPTx20
import Derived.Test.YtmkhkkfliecfdaaPTx24
namespace Go.Proofs.Ytmkhkkfliecfdaa.PT
open Go.RowKit Go.Proofs.YtmkhkkfliecfdaaW.PrintWords Go.Proofs.YtmkhkkfliecfdaaW.PrintLast Go.Proofs.Ytmkhkkfliecfdaa.Given Go.Proofs.Ytmkhkkfliecfdaa.Mm
attribute [local go_sem] mx_go mn_go
set_option linter.unusedVariables false
set_option linter.unusedSimpArgs false

attribute [local go_sem high] idx70
/-! ### spec_RangesMissing: function 31 -/
def spec_RangesMissing.l0 : Nat → Int → List (S31) → Int → Int → Option (Int × Int)
 | 0, _, _, _, _ => none
 | k + 1, x5, x15, x16, x17 => if x17 < x16 then (if 0 ≤ x17 then (if x17 < (x15.length : Int) then (if ((rd_T31 x15 x17).f1 = true) then (spec_RangesMissing.l0 k x5 x15 x16 (wrap64 (x17 + 1))) else (some ((rd_T31 x15 x17).f0.f0, wrap64 (x5 - ((rd_T31 x15 x17).f0.f0))))) else (none)) else (none)) else (some (x5, 0))
def spec_RangesMissing.f (k : Nat) (l0 : List (S24)) (a1_0 : Int) (a1_1 : Int) : Option (Int × Int) := (spec_RangeParts.f k l0 a1_0 a1_1).bind fun t476 => (spec_RangesMissing.l0 k (wrap64 (a1_0 + a1_1)) t476 (t476.length : Int) 0)
theorem spec_RangesMissing.mono_l : ∀ k, (∀ y0 y1 y2 y3, LeO (spec_RangesMissing.l0 k y0 y1 y2 y3) (spec_RangesMissing.l0 (k + 1) y0 y1 y2 y3))
 | 0 => fun _ _ _ _ r h => by simp [spec_RangesMissing.l0] at h
 | k + 1 => by
  have ih0 := spec_RangesMissing.mono_l k
  ·intro y0 y1 y2 y3
   unfold spec_RangesMissing.l0
   repeat' first
   | (with_reducible exact ih0 _ _ _ _)
   | (with_reducible exact spec_RangeParts.mono _ _ _ _)
   | (with_reducible exact LeO.refl _)
   | (with_reducible exact LeO.none _)
   | (with_reducible refine LeO.ite ?_ ?_)
   | (with_reducible refine LeO.bind ?_ (fun _ => ?_))
   | exact ih0 _ _ _ _
   | exact spec_RangeParts.mono _ _ _ _
   | exact LeO.none _
   | refine LeO.ite ?_ ?_
   | refine LeO.bind ?_ (fun _ => ?_)
theorem spec_RangesMissing.mono : ∀ a0 a1 a2 k, LeO (spec_RangesMissing.f k a0 a1 a2) (spec_RangesMissing.f (k + 1) a0 a1 a2) := by
 intro a0 a1 a2 k
 have ih0 := spec_RangesMissing.mono_l k
 unfold spec_RangesMissing.f
 repeat' first
   | (with_reducible exact ih0 _ _ _ _)
   | (with_reducible exact spec_RangeParts.mono _ _ _ _)
   | (with_reducible exact LeO.refl _)
   | (with_reducible exact LeO.none _)
   | (with_reducible refine LeO.ite ?_ ?_)
   | (with_reducible refine LeO.bind ?_ (fun _ => ?_))
   | exact ih0 _ _ _ _
   | exact spec_RangeParts.mono _ _ _ _
   | exact LeO.none _
   | refine LeO.ite ?_ ?_
   | refine LeO.bind ?_ (fun _ => ?_)
set_option maxHeartbeats 8000000 in
set_option maxRecDepth 100000 in
theorem spec_RangesMissing.calls (k : Nat) (A0 : Option Addr) (c0 : Nat) (l0 : List (S24)) (a1_0 : Int) (a1_1 : Int) (r1 : Int) (r2 : Int) (w : World) (hr0 : Kd.C k24 w A0 l0.length l0) (hc0 : l0.length ≤ c0) (h : spec_RangesMissing.f k l0 a1_0 a1_1 = some (r1, r2)) :
  Calls Try.prog 31 #[.slice A0 l0.length c0, .agg #[.int .i64 a1_0, .int .i64 a1_1]] w fun e w' => e = .returned (.agg #[.int .i64 r1, .int .i64 r2]) ∧ Below w.heap.size w w' := by
 have hu24 := Try.underlying24
 have hu31 := Try.underlying31
 have HR0 := Aside0.mk hr0
 have HC0 := Aside0.mk hc0
 clear hr0 hc0
 have HB := Aside0.mk (Below.refl w.heap.size w)
 have H : ((spec_RangeParts.f k l0 a1_0 a1_1).bind fun t476 => (spec_RangesMissing.l0 k (wrap64 (a1_0 + a1_1)) t476 (t476.length : Int) 0)) = some (r1, r2) := h
 clear h
 replace H := Option.bind_eq_some_iff.mp H
 obtain ⟨t476, A30, H⟩ := H
 replace H : (spec_RangesMissing.l0 k (wrap64 (a1_0 + a1_1)) t476 (t476.length : Int) 0) = some (r1, r2) := H
 have A3 := Aside0.mk A30
 clear A30
 have H' := Aside0.mk H
 clear H
 go_enter Try.func31, Try.ntmps31
 go_wp2_with (first | ((with_reducible refine gate_dst (N := 3) rfl ?_); refine box_event ?hg (N := 3) ?hd (cs := #[.int .i64 a1_0, .int .i64 a1_1]) (t := 24) ?hr ?_; (case hd => rfl); (case hg => rfl); (case hr => first | (go_simp; done) | (go_simp; rfl)); intro gb474 hg w4 hbox hb; have n0_ := Aside0.mk (below_step (by repeat (first | (with_reducible first | exact HB.out | apply below_alloc | apply pw_below_drewN | apply below_drew1) | exact HB.out)) hb); have n1_ := Aside0.mk (hbox); have n2_ := Aside0.mk ((by rw [hg]; exact (below_size (by repeat (first | (with_reducible first | exact HB.out | apply below_alloc | apply pw_below_drewN | apply below_drew1) | exact HB.out))) : w.heap.size ≤ gb474)); have n3_ := Aside0.mk ((by rw [hg]; exact (below_size (by repeat (first | (with_reducible first | exact HB.out | apply below_alloc | apply pw_below_drewN | apply below_drew1) | exact HB.out))) : w.heap.size ≤ gb474)); clear HB; have HB := n0_; have BK474 := n1_; have GW474 := n2_; have GE474 := n3_; clear n0_ n1_ n2_ n3_; clear hb hbox hg) | ((with_reducible refine gate_dst (N := 4) rfl ?_); refine box_event ?hg (N := 4) ?hd (cs := #[.int .i64 0, .int .i64 0]) (t := 24) ?hr ?_; (case hd => rfl); (case hg => rfl); (case hr => first | (go_simp; done) | (go_simp; rfl)); intro gb475 hg w5 hbox hb; have n0_ := Aside0.mk (blk_below (g := gb474) (o := .cells #[.int .i64 a1_0, .int .i64 a1_1] 24 (0, 0)) (by (with_reducible repeat (first | refine blk_drewN ?_ _ | refine blk_drew ?_ | refine blk_alloc ?_ _)); exact BK474.out) hb); have n1_ := Aside0.mk (below_step (by repeat (first | (with_reducible first | exact HB.out | apply below_alloc | apply pw_below_drewN | apply below_drew1 | refine below_set ?_ GE474.out) | exact HB.out)) hb); have n2_ := Aside0.mk (hbox); have n3_ := Aside0.mk ((by rw [hg]; exact (below_size (by repeat (first | (with_reducible first | exact HB.out | apply below_alloc | apply pw_below_drewN | apply below_drew1 | refine below_set ?_ GE474.out) | exact HB.out))) : w.heap.size ≤ gb475)); have n4_ := Aside0.mk ((by rw [hg]; exact (below_size (by repeat (first | (with_reducible first | exact HB.out | apply below_alloc | apply pw_below_drewN | apply below_drew1 | refine below_set ?_ GE474.out) | exact HB.out))) : w.heap.size ≤ gb475)); have n5_ := Aside0.mk ((by rw [hg]; exact Nat.ne_of_lt (blk_lt (g := gb474) (o := .cells #[.int .i64 a1_0, .int .i64 a1_1] 24 (0, 0)) (by (with_reducible repeat (first | refine blk_drewN ?_ _ | refine blk_drew ?_ | refine blk_alloc ?_ _)); exact BK474.out)) : gb474 ≠ gb475)); have n6_ := Aside0.mk ((by rw [hg]; exact Nat.ne_of_gt (blk_lt (g := gb474) (o := .cells #[.int .i64 a1_0, .int .i64 a1_1] 24 (0, 0)) (by (with_reducible repeat (first | refine blk_drewN ?_ _ | refine blk_drew ?_ | refine blk_alloc ?_ _)); exact BK474.out)) : gb475 ≠ gb474)); clear BK474; clear HB; have BK474 := n0_; have HB := n1_; have BK475 := n2_; have GW475 := n3_; have GE475 := n4_; have NB474_475 := n5_; have NB475_474 := n6_; clear n0_ n1_ n2_ n3_ n4_ n5_ n6_; clear hb hbox hg; have hnb6 := NB474_475.out; have hnc6 := NB475_474.out; have hcz7_0 : w5.cell? ⟨gb474, 0, none⟩ = some (.int .i64 a1_0) := (blk_cell BK474.out 0).trans rfl; have hcz7_1 : w5.cell? ⟨gb474, 1, none⟩ = some (.int .i64 a1_1) := (blk_cell BK474.out 1).trans rfl; have hfz7_0 := blk_frozen BK474.out 0; have hfz7_1 := blk_frozen BK474.out 1) | ((with_reducible refine gate_dst (N := 15) rfl ?_); refine goesL_ (some 15) rfl rfl Try.func15 (by kernel_rfl) rfl #[.slice A0 l0.length c0, .agg #[.int .i64 a1_0, .int .i64 a1_1]] rfl (by (try simp only [List.map_toArray, List.map_cons, List.map_nil]); first | done | rfl | (simp only [List.length_drop, List.length_take]; rfl)) ?_; (with_reducible refine (spec_RangeParts.calls k _ _ l0 a1_0 a1_1 t476 _ ?side1 ?side2 A3.out).mono ?_); (case side1 => repeat (first | exact (Kd.C_below HR0.out HB.out) | (with_reducible refine Kd.C_alloc ?_ _) | (with_reducible refine Kd.C_drewN ?_ _) | (with_reducible refine Kd.C_drew ?_))); (case side2 => exact HC0.out); rintro e w8 ⟨v477, rfl, ho0, hb⟩; refine ⟨_, rfl, ?_⟩; have n0_ := Aside0.mk (Kd.R_lower ho0 (below_size (by repeat (first | (with_reducible first | exact HB.out | apply below_alloc | apply pw_below_drewN | apply below_drew1 | refine below_set ?_ GE474.out | refine below_set ?_ GE475.out) | exact HB.out)))); have n1_ := Aside0.mk (blk_below (g := gb474) (o := .cells #[.int .i64 a1_0, .int .i64 a1_1] 24 (0, 0)) (by (with_reducible repeat (first | refine blk_drewN ?_ _ | refine blk_drew ?_ | refine blk_alloc ?_ _)); exact BK474.out) hb); have n2_ := Aside0.mk (blk_below (g := gb475) (o := .cells #[.int .i64 0, .int .i64 0] 24 (0, 0)) (by (with_reducible repeat (first | refine blk_drewN ?_ _ | refine blk_drew ?_ | refine blk_alloc ?_ _)); exact BK475.out) hb); have n3_ := Aside0.mk (below_step (by repeat (first | (with_reducible first | exact HB.out | apply below_alloc | apply pw_below_drewN | apply below_drew1 | refine below_set ?_ GE474.out | refine below_set ?_ GE475.out) | exact HB.out)) hb); clear BK474; clear BK475; clear HB; have HO478 := n0_; have BK474 := n1_; have BK475 := n2_; have HB := n3_; clear n0_ n1_ n2_ n3_; (try clear hb); (try clear hb2); (try clear hk); (try clear hi); (try clear ho0); obtain ⟨Ao9, co9, eo9⟩ := Kd.R_slice HO478.out; subst eo9))
 go_loopg [17] k (fun kq v17 w' => ∃ (x17_1 : Int) (x476000_1 : Int) (x476001_1 : Int), v17 = .int .i64 x17_1 ∧ Aside0 (spec_RangesMissing.l0 kq (wrap64 (a1_0 + a1_1)) t476 (t476.length : Int) x17_1 = some (r1, r2)) ∧ Aside0 (kq ≤ k) ∧ Aside0 (Kd.R k31 31 w' w.heap.size (fun _ => True) (.slice Ao9 t476.length co9) t476) ∧ Aside0 (w'.heap[gb474]? = some (.cells #[.int .i64 a1_0, .int .i64 a1_1] 24 (0, 0))) ∧ Aside0 (w'.heap[gb475]? = some (.cells #[.int .i64 x476000_1, .int .i64 x476001_1] 24 (0, 0))) ∧ Aside0 (Below w.heap.size w w'))
 case atStart => exact ⟨(0), (0), (0), (by first | rfl | (simp; done) | (simp [*]; done)), H', ⟨Nat.le_refl _⟩, ⟨by (with_reducible repeat (first | apply Kd.R_alloc | apply Kd.R_drewN | apply Kd.R_drew)); exact HO478.out⟩, ⟨by (with_reducible repeat (first | refine blk_drewN ?_ _ | refine blk_drew ?_ | refine blk_alloc ?_ _)); exact BK474.out⟩, ⟨by (with_reducible repeat (first | refine blk_drewN ?_ _ | refine blk_drew ?_ | refine blk_alloc ?_ _)); exact BK475.out⟩, ⟨by repeat (first | (with_reducible first | exact HB.out | apply below_alloc | apply pw_below_drewN | apply below_drew1 | refine below_set ?_ GE474.out | refine below_set ?_ GE475.out) | exact HB.out)⟩⟩
 case round =>
  clear H'
  try clear c1
  try clear p2
  try clear c3
  try clear c6
  try clear p6
  try clear hcz7_0
  try clear hcz7_1
  try clear hfz7_0
  try clear hfz7_1
  obtain ⟨x17_1, x476000_1, x476001_1, rfl, HA, HK1, HO_15, BK474, BK475, HB⟩ := hrel
  cases gk with
  | zero => exact absurd HA.out (by simp [spec_RangesMissing.l0])
  | succ k1 =>
   have H := HA.out
   clear HA
   simp only [spec_RangesMissing.l0] at H
   by_cases c10 : x17_1 < (t476.length : Int)
   ·rw [if_pos c10] at H
    have c10b0 : decide (x17_1 < (t476.length : Int)) = true := decide_eq_true c10
    clear c10
    by_cases c11 : 0 ≤ x17_1
    ·rw [if_pos c11] at H
     have c11b0 : decide (0 ≤ x17_1) = true := decide_eq_true c11
     clear c11
     by_cases c12 : x17_1 < (t476.length : Int)
     ·rw [if_pos c12] at H
      have c12b0 : decide (x17_1 < (t476.length : Int)) = true := decide_eq_true c12
      clear c12
      obtain ⟨bq13, hbq13⟩ : ∃ b_ : Bool, b_ = ((rd_T31 t476 x17_1).f1) := ⟨_, rfl⟩
      replace H : (if (bq13 = true) then (spec_RangesMissing.l0 k1 (wrap64 (a1_0 + a1_1)) t476 (t476.length : Int) (wrap64 (x17_1 + 1))) else (some ((rd_T31 t476 x17_1).f0.f0, wrap64 ((wrap64 (a1_0 + a1_1)) - ((rd_T31 t476 x17_1).f0.f0))))) = some (r1, r2) := by rw [← hbq13] at H; exact H
      have Nbq13 := Aside0.mk hbq13
      clear hbq13
      by_cases c14 : (bq13 = true)
      ·subst c14
       have H1 : (spec_RangesMissing.l0 k1 (wrap64 (a1_0 + a1_1)) t476 (t476.length : Int) (wrap64 (x17_1 + 1))) = some (r1, r2) := by rw [if_pos rfl] at H; exact H
       clear H
       have H := H1
       clear H1
       have H' := Aside0.mk H
       clear H
       have p479 : 0 ≤ (x17_1 : Int) := of_decide_eq_true (by first | (with_reducible assumption) | assumption)
       have q479 : x17_1 < (t476.length : Int) := of_decide_eq_true (by first | (with_reducible assumption) | assumption)
       obtain ⟨ad479, e479, hx479_0, hx479_1, hx479_2⟩ := at_T31 (Kd.R_reads' HO_15.out).2.2 x17_1 p479 q479
       (try rw [← Nbq13.out] at hx479_2)
       cases e479
       replace p479 := eq_true p479
       replace q479 := eq_true q479
       go_wp2_with (first | ((with_reducible refine gate_dst (N := 7) rfl ?_); refine box_event ?hg (N := 7) ?hd (cs := #[.int .i64 0, .int .i64 0, .bool false]) (t := 31) ?hr ?_; (case hd => rfl); (case hg => rfl); (case hr => first | (go_simp; done) | (go_simp; rfl)); intro gb480 hg w15 hbox hb; have n0_ := Aside0.mk (Kd.R_below (Kd.R_elderB (by (with_reducible repeat (first | apply Kd.R_alloc | apply Kd.R_drewN | apply Kd.R_drew)); exact HO_15.out) gb480 (Nat.le_of_eq hg.symm)) hb); have n1_ := Aside0.mk (blk_below (g := gb474) (o := .cells #[.int .i64 a1_0, .int .i64 a1_1] 24 (0, 0)) (by (with_reducible repeat (first | refine blk_drewN ?_ _ | refine blk_drew ?_ | refine blk_alloc ?_ _)); exact BK474.out) hb); have n2_ := Aside0.mk (blk_below (g := gb475) (o := .cells #[.int .i64 x476000_1, .int .i64 x476001_1] 24 (0, 0)) (by (with_reducible repeat (first | refine blk_drewN ?_ _ | refine blk_drew ?_ | refine blk_alloc ?_ _)); exact BK475.out) hb); have n3_ := Aside0.mk (below_step (by repeat (first | (with_reducible first | exact HB.out | apply below_alloc | apply pw_below_drewN | apply below_drew1 | refine below_set ?_ GE474.out | refine below_set ?_ GE475.out) | exact HB.out)) hb); have n4_ := Aside0.mk (hbox); have n5_ := Aside0.mk ((by rw [hg]; exact (below_size (by repeat (first | (with_reducible first | exact HB.out | apply below_alloc | apply pw_below_drewN | apply below_drew1 | refine below_set ?_ GE474.out | refine below_set ?_ GE475.out) | exact HB.out))) : w.heap.size ≤ gb480)); have n6_ := Aside0.mk ((by rw [hg]; exact (below_size (by repeat (first | (with_reducible first | exact HB.out | apply below_alloc | apply pw_below_drewN | apply below_drew1 | refine below_set ?_ GE474.out | refine below_set ?_ GE475.out) | exact HB.out))) : w.heap.size ≤ gb480)); have n7_ := Aside0.mk ((by rw [hg]; exact Nat.ne_of_lt (blk_lt (g := gb474) (o := .cells #[.int .i64 a1_0, .int .i64 a1_1] 24 (0, 0)) (by (with_reducible repeat (first | refine blk_drewN ?_ _ | refine blk_drew ?_ | refine blk_alloc ?_ _)); exact BK474.out)) : gb474 ≠ gb480)); have n8_ := Aside0.mk ((by rw [hg]; exact Nat.ne_of_gt (blk_lt (g := gb474) (o := .cells #[.int .i64 a1_0, .int .i64 a1_1] 24 (0, 0)) (by (with_reducible repeat (first | refine blk_drewN ?_ _ | refine blk_drew ?_ | refine blk_alloc ?_ _)); exact BK474.out)) : gb480 ≠ gb474)); have n9_ := Aside0.mk ((by rw [hg]; exact Nat.ne_of_lt (blk_lt (g := gb475) (o := .cells #[.int .i64 x476000_1, .int .i64 x476001_1] 24 (0, 0)) (by (with_reducible repeat (first | refine blk_drewN ?_ _ | refine blk_drew ?_ | refine blk_alloc ?_ _)); exact BK475.out)) : gb475 ≠ gb480)); have n10_ := Aside0.mk ((by rw [hg]; exact Nat.ne_of_gt (blk_lt (g := gb475) (o := .cells #[.int .i64 x476000_1, .int .i64 x476001_1] 24 (0, 0)) (by (with_reducible repeat (first | refine blk_drewN ?_ _ | refine blk_drew ?_ | refine blk_alloc ?_ _)); exact BK475.out)) : gb480 ≠ gb475)); clear HO_15; clear BK474; clear BK475; clear HB; have HO_15 := n0_; have BK474 := n1_; have BK475 := n2_; have HB := n3_; have BK480 := n4_; have GW480 := n5_; have GE480 := n6_; have NB474_480 := n7_; have NB480_474 := n8_; have NB475_480 := n9_; have NB480_475 := n10_; clear n0_ n1_ n2_ n3_ n4_ n5_ n6_ n7_ n8_ n9_ n10_; clear hb hbox hg; have hnb16 := NB480_474.out; have hnc16 := NB474_480.out; have hnb17 := NB480_475.out; have hnc17 := NB475_480.out; have hcz18_0 : w15.cell? ⟨gb480, 0, none⟩ = some (.int .i64 0) := (blk_cell BK480.out 0).trans rfl; have hcz18_1 : w15.cell? ⟨gb480, 1, none⟩ = some (.int .i64 0) := (blk_cell BK480.out 1).trans rfl; have hcz18_2 : w15.cell? ⟨gb480, 2, none⟩ = some (.bool false) := (blk_cell BK480.out 2).trans rfl; have hfz18_0 := blk_frozen BK480.out 0; have hfz18_1 := blk_frozen BK480.out 1; have hfz18_2 := blk_frozen BK480.out 2))
       go_roundg k1
       case measure => have := HK1.out; omega
       case rel => exact ⟨(wrap64 (x17_1 + 1)), (x476000_1), (x476001_1), (by first | rfl | (simp; done) | (simp [*]; done)), H', ⟨by have := HK1.out; omega⟩, ⟨by (with_reducible repeat (first | apply Kd.R_alloc | apply Kd.R_drewN | apply Kd.R_drew)); exact Kd.R_mono (Kd.R_far (p := ⟨gb480, 2, none⟩) (Kd.R_far (p := ⟨gb480, 1, none⟩) (Kd.R_far (p := ⟨gb480, 0, none⟩) (Kd.R_mono HO_15.out (fun k_ hk => (⟨hk, hk.2⟩ : _ ∧ k_ ≠ gb480))) (fun _ hk => hk.2) (.int .i64 ((rd_T31 t476 x17_1).f0.f0))) (fun _ hk => hk.2) (.int .i64 ((rd_T31 t476 x17_1).f0.f1))) (fun _ hk => hk.2) (.bool true)) (fun _ hk => trivial)⟩, ⟨by (with_reducible repeat (first | refine blk_drewN ?_ _ | refine blk_drew ?_ | refine blk_alloc ?_ _)); refine blk_far ?_ NB474_480.out _; (with_reducible repeat (first | refine blk_drewN ?_ _ | refine blk_drew ?_ | refine blk_alloc ?_ _)); refine blk_far ?_ NB474_480.out _; (with_reducible repeat (first | refine blk_drewN ?_ _ | refine blk_drew ?_ | refine blk_alloc ?_ _)); refine blk_far ?_ NB474_480.out _; (with_reducible repeat (first | refine blk_drewN ?_ _ | refine blk_drew ?_ | refine blk_alloc ?_ _)); exact BK474.out⟩, ⟨by (with_reducible repeat (first | refine blk_drewN ?_ _ | refine blk_drew ?_ | refine blk_alloc ?_ _)); refine blk_far ?_ NB475_480.out _; (with_reducible repeat (first | refine blk_drewN ?_ _ | refine blk_drew ?_ | refine blk_alloc ?_ _)); refine blk_far ?_ NB475_480.out _; (with_reducible repeat (first | refine blk_drewN ?_ _ | refine blk_drew ?_ | refine blk_alloc ?_ _)); refine blk_far ?_ NB475_480.out _; (with_reducible repeat (first | refine blk_drewN ?_ _ | refine blk_drew ?_ | refine blk_alloc ?_ _)); exact BK475.out⟩, ⟨by repeat (first | (with_reducible first | exact HB.out | apply below_alloc | apply pw_below_drewN | apply below_drew1 | refine below_set ?_ GE474.out | refine below_set ?_ GE475.out | refine below_set ?_ GE480.out) | exact HB.out)⟩⟩
      ·replace c14 := Bool.eq_false_iff.mpr c14
       subst c14
       have H1 : (some ((rd_T31 t476 x17_1).f0.f0, wrap64 ((wrap64 (a1_0 + a1_1)) - ((rd_T31 t476 x17_1).f0.f0)))) = some (r1, r2) := by rw [if_neg (show ¬ (false = true) by decide)] at H; exact H
       clear H
       have H := H1
       clear H1
       simp only [Option.some.injEq, Prod.mk.injEq] at H
       obtain ⟨rfl, rfl⟩ := H
       have p479 : 0 ≤ (x17_1 : Int) := of_decide_eq_true (by first | (with_reducible assumption) | assumption)
       have q479 : x17_1 < (t476.length : Int) := of_decide_eq_true (by first | (with_reducible assumption) | assumption)
       obtain ⟨ad479, e479, hx479_0, hx479_1, hx479_2⟩ := at_T31 (Kd.R_reads' HO_15.out).2.2 x17_1 p479 q479
       (try rw [← Nbq13.out] at hx479_2)
       cases e479
       replace p479 := eq_true p479
       replace q479 := eq_true q479
       go_wp2_with (first | ((with_reducible refine gate_dst (N := 7) rfl ?_); refine box_event ?hg (N := 7) ?hd (cs := #[.int .i64 0, .int .i64 0, .bool false]) (t := 31) ?hr ?_; (case hd => rfl); (case hg => rfl); (case hr => first | (go_simp; done) | (go_simp; rfl)); intro gb480 hg w19 hbox hb; have n0_ := Aside0.mk (Kd.R_below (Kd.R_elderB (by (with_reducible repeat (first | apply Kd.R_alloc | apply Kd.R_drewN | apply Kd.R_drew)); exact HO_15.out) gb480 (Nat.le_of_eq hg.symm)) hb); have n1_ := Aside0.mk (blk_below (g := gb474) (o := .cells #[.int .i64 a1_0, .int .i64 a1_1] 24 (0, 0)) (by (with_reducible repeat (first | refine blk_drewN ?_ _ | refine blk_drew ?_ | refine blk_alloc ?_ _)); exact BK474.out) hb); have n2_ := Aside0.mk (blk_below (g := gb475) (o := .cells #[.int .i64 x476000_1, .int .i64 x476001_1] 24 (0, 0)) (by (with_reducible repeat (first | refine blk_drewN ?_ _ | refine blk_drew ?_ | refine blk_alloc ?_ _)); exact BK475.out) hb); have n3_ := Aside0.mk (below_step (by repeat (first | (with_reducible first | exact HB.out | apply below_alloc | apply pw_below_drewN | apply below_drew1 | refine below_set ?_ GE474.out | refine below_set ?_ GE475.out) | exact HB.out)) hb); have n4_ := Aside0.mk (hbox); have n5_ := Aside0.mk ((by rw [hg]; exact (below_size (by repeat (first | (with_reducible first | exact HB.out | apply below_alloc | apply pw_below_drewN | apply below_drew1 | refine below_set ?_ GE474.out | refine below_set ?_ GE475.out) | exact HB.out))) : w.heap.size ≤ gb480)); have n6_ := Aside0.mk ((by rw [hg]; exact (below_size (by repeat (first | (with_reducible first | exact HB.out | apply below_alloc | apply pw_below_drewN | apply below_drew1 | refine below_set ?_ GE474.out | refine below_set ?_ GE475.out) | exact HB.out))) : w.heap.size ≤ gb480)); have n7_ := Aside0.mk ((by rw [hg]; exact Nat.ne_of_lt (blk_lt (g := gb474) (o := .cells #[.int .i64 a1_0, .int .i64 a1_1] 24 (0, 0)) (by (with_reducible repeat (first | refine blk_drewN ?_ _ | refine blk_drew ?_ | refine blk_alloc ?_ _)); exact BK474.out)) : gb474 ≠ gb480)); have n8_ := Aside0.mk ((by rw [hg]; exact Nat.ne_of_gt (blk_lt (g := gb474) (o := .cells #[.int .i64 a1_0, .int .i64 a1_1] 24 (0, 0)) (by (with_reducible repeat (first | refine blk_drewN ?_ _ | refine blk_drew ?_ | refine blk_alloc ?_ _)); exact BK474.out)) : gb480 ≠ gb474)); have n9_ := Aside0.mk ((by rw [hg]; exact Nat.ne_of_lt (blk_lt (g := gb475) (o := .cells #[.int .i64 x476000_1, .int .i64 x476001_1] 24 (0, 0)) (by (with_reducible repeat (first | refine blk_drewN ?_ _ | refine blk_drew ?_ | refine blk_alloc ?_ _)); exact BK475.out)) : gb475 ≠ gb480)); have n10_ := Aside0.mk ((by rw [hg]; exact Nat.ne_of_gt (blk_lt (g := gb475) (o := .cells #[.int .i64 x476000_1, .int .i64 x476001_1] 24 (0, 0)) (by (with_reducible repeat (first | refine blk_drewN ?_ _ | refine blk_drew ?_ | refine blk_alloc ?_ _)); exact BK475.out)) : gb480 ≠ gb475)); clear HO_15; clear BK474; clear BK475; clear HB; have HO_15 := n0_; have BK474 := n1_; have BK475 := n2_; have HB := n3_; have BK480 := n4_; have GW480 := n5_; have GE480 := n6_; have NB474_480 := n7_; have NB480_474 := n8_; have NB475_480 := n9_; have NB480_475 := n10_; clear n0_ n1_ n2_ n3_ n4_ n5_ n6_ n7_ n8_ n9_ n10_; clear hb hbox hg; have hnb20 := NB480_474.out; have hnc20 := NB474_480.out; have hnb21 := NB480_475.out; have hnc21 := NB475_480.out; have hcz22_0 : w19.cell? ⟨gb480, 0, none⟩ = some (.int .i64 0) := (blk_cell BK480.out 0).trans rfl; have hcz22_1 : w19.cell? ⟨gb480, 1, none⟩ = some (.int .i64 0) := (blk_cell BK480.out 1).trans rfl; have hcz22_2 : w19.cell? ⟨gb480, 2, none⟩ = some (.bool false) := (blk_cell BK480.out 2).trans rfl; have hfz22_0 := blk_frozen BK480.out 0; have hfz22_1 := blk_frozen BK480.out 1; have hfz22_2 := blk_frozen BK480.out 2; have hnb23 := NB475_474.out; have hnc23 := NB474_475.out; have hcz24_0 : w19.cell? ⟨gb475, 0, none⟩ = some (.int .i64 x476000_1) := (blk_cell BK475.out 0).trans rfl; have hcz24_1 : w19.cell? ⟨gb475, 1, none⟩ = some (.int .i64 x476001_1) := (blk_cell BK475.out 1).trans rfl; have hfz24_0 := blk_frozen BK475.out 0; have hfz24_1 := blk_frozen BK475.out 1))
       refine bodyPost_ret (results_cell_row rfl _ _ gb475 24 #[.int .i64 ((rd_T31 t476 x17_1).f0.f0), .int .i64 (wrap64 ((wrap64 (a1_0 + a1_1)) - ((rd_T31 t476 x17_1).f0.f0)))] (0, 0) _ rfl (by (with_reducible repeat (first | refine blk_drewN ?_ _ | refine blk_drew ?_ | refine blk_alloc ?_ _)); refine blk_put (cs := #[.int .i64 ((rd_T31 t476 x17_1).f0.f0), .int .i64 x476001_1]) ?_ 1 _ rfl; (with_reducible repeat (first | refine blk_drewN ?_ _ | refine blk_drew ?_ | refine blk_alloc ?_ _)); refine blk_put (cs := #[.int .i64 x476000_1, .int .i64 x476001_1]) ?_ 0 _ rfl; (with_reducible repeat (first | refine blk_drewN ?_ _ | refine blk_drew ?_ | refine blk_alloc ?_ _)); refine blk_far ?_ NB475_480.out _; (with_reducible repeat (first | refine blk_drewN ?_ _ | refine blk_drew ?_ | refine blk_alloc ?_ _)); refine blk_far ?_ NB475_480.out _; (with_reducible repeat (first | refine blk_drewN ?_ _ | refine blk_drew ?_ | refine blk_alloc ?_ _)); refine blk_far ?_ NB475_480.out _; (with_reducible repeat (first | refine blk_drewN ?_ _ | refine blk_drew ?_ | refine blk_alloc ?_ _)); exact BK475.out) Try.underlying24 rfl (by kernel_rfl)) rfl ?_
       exact ⟨by first | rfl | (simp [errW_none, errW_some] <;> rfl) | (simp [*, errW_none, errW_some] <;> rfl), by repeat (first | (with_reducible first | exact HB.out | apply below_alloc | apply pw_below_drewN | apply below_drew1 | refine below_set ?_ GE474.out | refine below_set ?_ GE475.out | refine below_set ?_ GE480.out) | exact HB.out)⟩
     ·rw [if_neg c12] at H
      exact absurd H (by simp)
    ·rw [if_neg c11] at H
     exact absurd H (by simp)
   ·rw [if_neg c10] at H
    have c10b0 : decide (x17_1 < (t476.length : Int)) = false := decide_eq_false c10
    clear c10
    simp only [Option.some.injEq, Prod.mk.injEq] at H
    obtain ⟨rfl, rfl⟩ := H
    have hnb25 := NB475_474.out
    have hnc25 := NB474_475.out
    have hcz26_0 : wr.cell? ⟨gb475, 0, none⟩ = some (.int .i64 x476000_1) := (blk_cell BK475.out 0).trans rfl
    have hcz26_1 : wr.cell? ⟨gb475, 1, none⟩ = some (.int .i64 x476001_1) := (blk_cell BK475.out 1).trans rfl
    have hfz26_0 := blk_frozen BK475.out 0
    have hfz26_1 := blk_frozen BK475.out 1
    go_wp2
    refine bodyPost_ret (results_cell_row rfl _ _ gb475 24 #[.int .i64 (wrap64 (a1_0 + a1_1)), .int .i64 0] (0, 0) _ rfl (by (with_reducible repeat (first | refine blk_drewN ?_ _ | refine blk_drew ?_ | refine blk_alloc ?_ _)); refine blk_put (cs := #[.int .i64 (wrap64 (a1_0 + a1_1)), .int .i64 x476001_1]) ?_ 1 _ rfl; (with_reducible repeat (first | refine blk_drewN ?_ _ | refine blk_drew ?_ | refine blk_alloc ?_ _)); refine blk_put (cs := #[.int .i64 x476000_1, .int .i64 x476001_1]) ?_ 0 _ rfl; (with_reducible repeat (first | refine blk_drewN ?_ _ | refine blk_drew ?_ | refine blk_alloc ?_ _)); exact BK475.out) Try.underlying24 rfl (by kernel_rfl)) rfl ?_
    exact ⟨by first | rfl | (simp [errW_none, errW_some] <;> rfl) | (simp [*, errW_none, errW_some] <;> rfl), by repeat (first | (with_reducible first | exact HB.out | apply below_alloc | apply pw_below_drewN | apply below_drew1 | refine below_set ?_ GE474.out | refine below_set ?_ GE475.out) | exact HB.out)⟩

end Go.Proofs.Ytmkhkkfliecfdaa.PT
