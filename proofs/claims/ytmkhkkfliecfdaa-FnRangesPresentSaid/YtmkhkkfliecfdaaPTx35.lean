-- Written by a program of this session. -- slim
import Derived.Test.YtmkhkkfliecfdaaPTx20
import Derived.Test.YtmkhkkfliecfdaaPTx24
namespace Go.Proofs.Ytmkhkkfliecfdaa.PT
open Go.RowKit Go.Proofs.YtmkhkkfliecfdaaW.PrintWords Go.Proofs.YtmkhkkfliecfdaaW.PrintLast Go.Proofs.Ytmkhkkfliecfdaa.Given Go.Proofs.Ytmkhkkfliecfdaa.Mm
attribute [local go_sem] mx_go mn_go
set_option linter.unusedVariables false
set_option linter.unusedSimpArgs false

attribute [local go_sem high] idx70
/-! ### spec_RangesPresent: function 24 -/
def spec_RangesPresent.l0 : Nat → List (S31) → Int → Int → Option (Bool)
 | 0, _, _, _ => none
 | k + 1, x9, x10, x11 => if x11 < x10 then (if 0 ≤ x11 then (if x11 < (x9.length : Int) then (if ((rd_T31 x9 x11).f1 = true) then (spec_RangesPresent.l0 k x9 x10 (wrap64 (x11 + 1))) else (some false)) else (none)) else (none)) else (some true)
def spec_RangesPresent.f (k : Nat) (l0 : List (S24)) (a1_0 : Int) (a1_1 : Int) : Option (Bool) := (spec_RangeParts.f k l0 a1_0 a1_1).bind fun t350 => (spec_RangesPresent.l0 k t350 (t350.length : Int) 0)
theorem spec_RangesPresent.mono_l : ∀ k, (∀ y0 y1 y2, LeO (spec_RangesPresent.l0 k y0 y1 y2) (spec_RangesPresent.l0 (k + 1) y0 y1 y2))
 | 0 => fun _ _ _ r h => by simp [spec_RangesPresent.l0] at h
 | k + 1 => by
  have ih0 := spec_RangesPresent.mono_l k
  ·intro y0 y1 y2
   unfold spec_RangesPresent.l0
   repeat' first
   | (with_reducible exact ih0 _ _ _)
   | (with_reducible exact spec_RangeParts.mono _ _ _ _)
   | (with_reducible exact LeO.refl _)
   | (with_reducible exact LeO.none _)
   | (with_reducible refine LeO.ite ?_ ?_)
   | (with_reducible refine LeO.bind ?_ (fun _ => ?_))
   | exact ih0 _ _ _
   | exact spec_RangeParts.mono _ _ _ _
   | exact LeO.none _
   | refine LeO.ite ?_ ?_
   | refine LeO.bind ?_ (fun _ => ?_)
theorem spec_RangesPresent.mono : ∀ a0 a1 a2 k, LeO (spec_RangesPresent.f k a0 a1 a2) (spec_RangesPresent.f (k + 1) a0 a1 a2) := by
 intro a0 a1 a2 k
 have ih0 := spec_RangesPresent.mono_l k
 unfold spec_RangesPresent.f
 repeat' first
   | (with_reducible exact ih0 _ _ _)
   | (with_reducible exact spec_RangeParts.mono _ _ _ _)
   | (with_reducible exact LeO.refl _)
   | (with_reducible exact LeO.none _)
   | (with_reducible refine LeO.ite ?_ ?_)
   | (with_reducible refine LeO.bind ?_ (fun _ => ?_))
   | exact ih0 _ _ _
   | exact spec_RangeParts.mono _ _ _ _
   | exact LeO.none _
   | refine LeO.ite ?_ ?_
   | refine LeO.bind ?_ (fun _ => ?_)
set_option maxHeartbeats 8000000 in
set_option maxRecDepth 100000 in
theorem spec_RangesPresent.calls (k : Nat) (A0 : Option Addr) (c0 : Nat) (l0 : List (S24)) (a1_0 : Int) (a1_1 : Int) (r : Bool) (w : World) (hr0 : Kd.C k24 w A0 l0.length l0) (hc0 : l0.length ≤ c0) (h : spec_RangesPresent.f k l0 a1_0 a1_1 = some r) :
  Calls Try.prog 24 #[.slice A0 l0.length c0, .agg #[.int .i64 a1_0, .int .i64 a1_1]] w fun e w' => e = .returned (.bool r) ∧ Below w.heap.size w w' := by
 have hu24 := Try.underlying24
 have hu31 := Try.underlying31
 have HR0 := Aside0.mk hr0
 have HC0 := Aside0.mk hc0
 clear hr0 hc0
 have HB := Aside0.mk (Below.refl w.heap.size w)
 have H : ((spec_RangeParts.f k l0 a1_0 a1_1).bind fun t350 => (spec_RangesPresent.l0 k t350 (t350.length : Int) 0)) = some r := h
 clear h
 replace H := Option.bind_eq_some_iff.mp H
 obtain ⟨t350, A30, H⟩ := H
 replace H : (spec_RangesPresent.l0 k t350 (t350.length : Int) 0) = some r := H
 have A3 := Aside0.mk A30
 clear A30
 have H' := Aside0.mk H
 clear H
 go_enter Try.func24, Try.ntmps24
 go_wp2_with (first | ((with_reducible refine gate_dst (N := 3) rfl ?_); refine box_event ?hg (N := 3) ?hd (cs := #[.int .i64 a1_0, .int .i64 a1_1]) (t := 24) ?hr ?_; (case hd => rfl); (case hg => rfl); (case hr => first | (go_simp; done) | (go_simp; rfl)); intro gb349 hg w4 hbox hb; have n0_ := Aside0.mk (below_step (by repeat (first | (with_reducible first | exact HB.out | apply below_alloc | apply pw_below_drewN | apply below_drew1) | exact HB.out)) hb); have n1_ := Aside0.mk (hbox); have n2_ := Aside0.mk ((by rw [hg]; exact (below_size (by repeat (first | (with_reducible first | exact HB.out | apply below_alloc | apply pw_below_drewN | apply below_drew1) | exact HB.out))) : w.heap.size ≤ gb349)); have n3_ := Aside0.mk ((by rw [hg]; exact (below_size (by repeat (first | (with_reducible first | exact HB.out | apply below_alloc | apply pw_below_drewN | apply below_drew1) | exact HB.out))) : w.heap.size ≤ gb349)); clear HB; have HB := n0_; have BK349 := n1_; have GW349 := n2_; have GE349 := n3_; clear n0_ n1_ n2_ n3_; clear hb hbox hg; have hcz5_0 : w4.cell? ⟨gb349, 0, none⟩ = some (.int .i64 a1_0) := (blk_cell BK349.out 0).trans rfl; have hcz5_1 : w4.cell? ⟨gb349, 1, none⟩ = some (.int .i64 a1_1) := (blk_cell BK349.out 1).trans rfl; have hfz5_0 := blk_frozen BK349.out 0; have hfz5_1 := blk_frozen BK349.out 1) | ((with_reducible refine gate_dst (N := 9) rfl ?_); refine goesL_ (some 9) rfl rfl Try.func15 (by kernel_rfl) rfl #[.slice A0 l0.length c0, .agg #[.int .i64 a1_0, .int .i64 a1_1]] rfl (by (try simp only [List.map_toArray, List.map_cons, List.map_nil]); first | done | rfl | (simp only [List.length_drop, List.length_take]; rfl)) ?_; (with_reducible refine (spec_RangeParts.calls k _ _ l0 a1_0 a1_1 t350 _ ?side1 ?side2 A3.out).mono ?_); (case side1 => repeat (first | exact (Kd.C_below HR0.out HB.out) | (with_reducible refine Kd.C_alloc ?_ _) | (with_reducible refine Kd.C_drewN ?_ _) | (with_reducible refine Kd.C_drew ?_))); (case side2 => exact HC0.out); rintro e w6 ⟨v351, rfl, ho0, hb⟩; refine ⟨_, rfl, ?_⟩; have n0_ := Aside0.mk (Kd.R_lower ho0 (below_size (by repeat (first | (with_reducible first | exact HB.out | apply below_alloc | apply pw_below_drewN | apply below_drew1 | refine below_set ?_ GE349.out) | exact HB.out)))); have n1_ := Aside0.mk (blk_below (g := gb349) (o := .cells #[.int .i64 a1_0, .int .i64 a1_1] 24 (0, 0)) (by (with_reducible repeat (first | refine blk_drewN ?_ _ | refine blk_drew ?_ | refine blk_alloc ?_ _)); exact BK349.out) hb); have n2_ := Aside0.mk (below_step (by repeat (first | (with_reducible first | exact HB.out | apply below_alloc | apply pw_below_drewN | apply below_drew1 | refine below_set ?_ GE349.out) | exact HB.out)) hb); clear BK349; clear HB; have HO352 := n0_; have BK349 := n1_; have HB := n2_; clear n0_ n1_ n2_; (try clear hb); (try clear hb2); (try clear hk); (try clear hi); (try clear ho0); obtain ⟨Ao7, co7, eo7⟩ := Kd.R_slice HO352.out; subst eo7))
 go_loopg [11] k (fun kq v11 w' => ∃ (x11_1 : Int), v11 = .int .i64 x11_1 ∧ Aside0 (spec_RangesPresent.l0 kq t350 (t350.length : Int) x11_1 = some r) ∧ Aside0 (kq ≤ k) ∧ Aside0 (Kd.R k31 31 w' w.heap.size (fun _ => True) (.slice Ao7 t350.length co7) t350) ∧ Aside0 (w'.heap[gb349]? = some (.cells #[.int .i64 a1_0, .int .i64 a1_1] 24 (0, 0))) ∧ Aside0 (Below w.heap.size w w'))
 case atStart => exact ⟨(0), (by first | rfl | (simp; done) | (simp [*]; done)), H', ⟨Nat.le_refl _⟩, ⟨by (with_reducible repeat (first | apply Kd.R_alloc | apply Kd.R_drewN | apply Kd.R_drew)); exact HO352.out⟩, ⟨by (with_reducible repeat (first | refine blk_drewN ?_ _ | refine blk_drew ?_ | refine blk_alloc ?_ _)); exact BK349.out⟩, ⟨by repeat (first | (with_reducible first | exact HB.out | apply below_alloc | apply pw_below_drewN | apply below_drew1 | refine below_set ?_ GE349.out) | exact HB.out)⟩⟩
 case round =>
  clear H'
  try clear c1
  try clear c2
  try clear p2
  try clear hcz5_0
  try clear hcz5_1
  try clear hfz5_0
  try clear hfz5_1
  obtain ⟨x11_1, rfl, HA, HK1, HO_9, BK349, HB⟩ := hrel
  cases gk with
  | zero => exact absurd HA.out (by simp [spec_RangesPresent.l0])
  | succ k1 =>
   have H := HA.out
   clear HA
   simp only [spec_RangesPresent.l0] at H
   by_cases c8 : x11_1 < (t350.length : Int)
   ·rw [if_pos c8] at H
    have c8b0 : decide (x11_1 < (t350.length : Int)) = true := decide_eq_true c8
    clear c8
    by_cases c9 : 0 ≤ x11_1
    ·rw [if_pos c9] at H
     have c9b0 : decide (0 ≤ x11_1) = true := decide_eq_true c9
     clear c9
     by_cases c10 : x11_1 < (t350.length : Int)
     ·rw [if_pos c10] at H
      have c10b0 : decide (x11_1 < (t350.length : Int)) = true := decide_eq_true c10
      clear c10
      obtain ⟨bq11, hbq11⟩ : ∃ b_ : Bool, b_ = ((rd_T31 t350 x11_1).f1) := ⟨_, rfl⟩
      replace H : (if (bq11 = true) then (spec_RangesPresent.l0 k1 t350 (t350.length : Int) (wrap64 (x11_1 + 1))) else (some false)) = some r := by rw [← hbq11] at H; exact H
      have Nbq11 := Aside0.mk hbq11
      clear hbq11
      by_cases c12 : (bq11 = true)
      ·subst c12
       have H1 : (spec_RangesPresent.l0 k1 t350 (t350.length : Int) (wrap64 (x11_1 + 1))) = some r := by rw [if_pos rfl] at H; exact H
       clear H
       have H := H1
       clear H1
       have H' := Aside0.mk H
       clear H
       have p353 : 0 ≤ (x11_1 : Int) := of_decide_eq_true (by first | (with_reducible assumption) | assumption)
       have q353 : x11_1 < (t350.length : Int) := of_decide_eq_true (by first | (with_reducible assumption) | assumption)
       obtain ⟨ad353, e353, hx353_0, hx353_1, hx353_2⟩ := at_T31 (Kd.R_reads' HO_9.out).2.2 x11_1 p353 q353
       (try rw [← Nbq11.out] at hx353_2)
       cases e353
       replace p353 := eq_true p353
       replace q353 := eq_true q353
       go_wp2_with (first | ((with_reducible refine gate_dst (N := 6) rfl ?_); refine box_event ?hg (N := 6) ?hd (cs := #[.int .i64 0, .int .i64 0, .bool false]) (t := 31) ?hr ?_; (case hd => rfl); (case hg => rfl); (case hr => first | (go_simp; done) | (go_simp; rfl)); intro gb354 hg w13 hbox hb; have n0_ := Aside0.mk (Kd.R_below (Kd.R_elderB (by (with_reducible repeat (first | apply Kd.R_alloc | apply Kd.R_drewN | apply Kd.R_drew)); exact HO_9.out) gb354 (Nat.le_of_eq hg.symm)) hb); have n1_ := Aside0.mk (blk_below (g := gb349) (o := .cells #[.int .i64 a1_0, .int .i64 a1_1] 24 (0, 0)) (by (with_reducible repeat (first | refine blk_drewN ?_ _ | refine blk_drew ?_ | refine blk_alloc ?_ _)); exact BK349.out) hb); have n2_ := Aside0.mk (below_step (by repeat (first | (with_reducible first | exact HB.out | apply below_alloc | apply pw_below_drewN | apply below_drew1 | refine below_set ?_ GE349.out) | exact HB.out)) hb); have n3_ := Aside0.mk (hbox); have n4_ := Aside0.mk ((by rw [hg]; exact (below_size (by repeat (first | (with_reducible first | exact HB.out | apply below_alloc | apply pw_below_drewN | apply below_drew1 | refine below_set ?_ GE349.out) | exact HB.out))) : w.heap.size ≤ gb354)); have n5_ := Aside0.mk ((by rw [hg]; exact (below_size (by repeat (first | (with_reducible first | exact HB.out | apply below_alloc | apply pw_below_drewN | apply below_drew1 | refine below_set ?_ GE349.out) | exact HB.out))) : w.heap.size ≤ gb354)); have n6_ := Aside0.mk ((by rw [hg]; exact Nat.ne_of_lt (blk_lt (g := gb349) (o := .cells #[.int .i64 a1_0, .int .i64 a1_1] 24 (0, 0)) (by (with_reducible repeat (first | refine blk_drewN ?_ _ | refine blk_drew ?_ | refine blk_alloc ?_ _)); exact BK349.out)) : gb349 ≠ gb354)); have n7_ := Aside0.mk ((by rw [hg]; exact Nat.ne_of_gt (blk_lt (g := gb349) (o := .cells #[.int .i64 a1_0, .int .i64 a1_1] 24 (0, 0)) (by (with_reducible repeat (first | refine blk_drewN ?_ _ | refine blk_drew ?_ | refine blk_alloc ?_ _)); exact BK349.out)) : gb354 ≠ gb349)); clear HO_9; clear BK349; clear HB; have HO_9 := n0_; have BK349 := n1_; have HB := n2_; have BK354 := n3_; have GW354 := n4_; have GE354 := n5_; have NB349_354 := n6_; have NB354_349 := n7_; clear n0_ n1_ n2_ n3_ n4_ n5_ n6_ n7_; clear hb hbox hg; have hnb14 := NB354_349.out; have hnc14 := NB349_354.out; have hcz15_0 : w13.cell? ⟨gb354, 0, none⟩ = some (.int .i64 0) := (blk_cell BK354.out 0).trans rfl; have hcz15_1 : w13.cell? ⟨gb354, 1, none⟩ = some (.int .i64 0) := (blk_cell BK354.out 1).trans rfl; have hcz15_2 : w13.cell? ⟨gb354, 2, none⟩ = some (.bool false) := (blk_cell BK354.out 2).trans rfl; have hfz15_0 := blk_frozen BK354.out 0; have hfz15_1 := blk_frozen BK354.out 1; have hfz15_2 := blk_frozen BK354.out 2))
       go_roundg k1
       case measure => have := HK1.out; omega
       case rel => exact ⟨(wrap64 (x11_1 + 1)), (by first | rfl | (simp; done) | (simp [*]; done)), H', ⟨by have := HK1.out; omega⟩, ⟨by (with_reducible repeat (first | apply Kd.R_alloc | apply Kd.R_drewN | apply Kd.R_drew)); exact Kd.R_mono (Kd.R_far (p := ⟨gb354, 2, none⟩) (Kd.R_far (p := ⟨gb354, 1, none⟩) (Kd.R_far (p := ⟨gb354, 0, none⟩) (Kd.R_mono HO_9.out (fun k_ hk => (⟨hk, hk.2⟩ : _ ∧ k_ ≠ gb354))) (fun _ hk => hk.2) (.int .i64 ((rd_T31 t350 x11_1).f0.f0))) (fun _ hk => hk.2) (.int .i64 ((rd_T31 t350 x11_1).f0.f1))) (fun _ hk => hk.2) (.bool true)) (fun _ hk => trivial)⟩, ⟨by (with_reducible repeat (first | refine blk_drewN ?_ _ | refine blk_drew ?_ | refine blk_alloc ?_ _)); refine blk_far ?_ NB349_354.out _; (with_reducible repeat (first | refine blk_drewN ?_ _ | refine blk_drew ?_ | refine blk_alloc ?_ _)); refine blk_far ?_ NB349_354.out _; (with_reducible repeat (first | refine blk_drewN ?_ _ | refine blk_drew ?_ | refine blk_alloc ?_ _)); refine blk_far ?_ NB349_354.out _; (with_reducible repeat (first | refine blk_drewN ?_ _ | refine blk_drew ?_ | refine blk_alloc ?_ _)); exact BK349.out⟩, ⟨by repeat (first | (with_reducible first | exact HB.out | apply below_alloc | apply pw_below_drewN | apply below_drew1 | refine below_set ?_ GE349.out | refine below_set ?_ GE354.out) | exact HB.out)⟩⟩
      ·replace c12 := Bool.eq_false_iff.mpr c12
       subst c12
       have H1 : (some false) = some r := by rw [if_neg (show ¬ (false = true) by decide)] at H; exact H
       clear H
       have H := H1
       clear H1
       obtain rfl := Option.some.inj H
       have p353 : 0 ≤ (x11_1 : Int) := of_decide_eq_true (by first | (with_reducible assumption) | assumption)
       have q353 : x11_1 < (t350.length : Int) := of_decide_eq_true (by first | (with_reducible assumption) | assumption)
       obtain ⟨ad353, e353, hx353_0, hx353_1, hx353_2⟩ := at_T31 (Kd.R_reads' HO_9.out).2.2 x11_1 p353 q353
       (try rw [← Nbq11.out] at hx353_2)
       cases e353
       replace p353 := eq_true p353
       replace q353 := eq_true q353
       go_wp2_with (first | ((with_reducible refine gate_dst (N := 6) rfl ?_); refine box_event ?hg (N := 6) ?hd (cs := #[.int .i64 0, .int .i64 0, .bool false]) (t := 31) ?hr ?_; (case hd => rfl); (case hg => rfl); (case hr => first | (go_simp; done) | (go_simp; rfl)); intro gb354 hg w16 hbox hb; have n0_ := Aside0.mk (Kd.R_below (Kd.R_elderB (by (with_reducible repeat (first | apply Kd.R_alloc | apply Kd.R_drewN | apply Kd.R_drew)); exact HO_9.out) gb354 (Nat.le_of_eq hg.symm)) hb); have n1_ := Aside0.mk (blk_below (g := gb349) (o := .cells #[.int .i64 a1_0, .int .i64 a1_1] 24 (0, 0)) (by (with_reducible repeat (first | refine blk_drewN ?_ _ | refine blk_drew ?_ | refine blk_alloc ?_ _)); exact BK349.out) hb); have n2_ := Aside0.mk (below_step (by repeat (first | (with_reducible first | exact HB.out | apply below_alloc | apply pw_below_drewN | apply below_drew1 | refine below_set ?_ GE349.out) | exact HB.out)) hb); have n3_ := Aside0.mk (hbox); have n4_ := Aside0.mk ((by rw [hg]; exact (below_size (by repeat (first | (with_reducible first | exact HB.out | apply below_alloc | apply pw_below_drewN | apply below_drew1 | refine below_set ?_ GE349.out) | exact HB.out))) : w.heap.size ≤ gb354)); have n5_ := Aside0.mk ((by rw [hg]; exact (below_size (by repeat (first | (with_reducible first | exact HB.out | apply below_alloc | apply pw_below_drewN | apply below_drew1 | refine below_set ?_ GE349.out) | exact HB.out))) : w.heap.size ≤ gb354)); have n6_ := Aside0.mk ((by rw [hg]; exact Nat.ne_of_lt (blk_lt (g := gb349) (o := .cells #[.int .i64 a1_0, .int .i64 a1_1] 24 (0, 0)) (by (with_reducible repeat (first | refine blk_drewN ?_ _ | refine blk_drew ?_ | refine blk_alloc ?_ _)); exact BK349.out)) : gb349 ≠ gb354)); have n7_ := Aside0.mk ((by rw [hg]; exact Nat.ne_of_gt (blk_lt (g := gb349) (o := .cells #[.int .i64 a1_0, .int .i64 a1_1] 24 (0, 0)) (by (with_reducible repeat (first | refine blk_drewN ?_ _ | refine blk_drew ?_ | refine blk_alloc ?_ _)); exact BK349.out)) : gb354 ≠ gb349)); clear HO_9; clear BK349; clear HB; have HO_9 := n0_; have BK349 := n1_; have HB := n2_; have BK354 := n3_; have GW354 := n4_; have GE354 := n5_; have NB349_354 := n6_; have NB354_349 := n7_; clear n0_ n1_ n2_ n3_ n4_ n5_ n6_ n7_; clear hb hbox hg; have hnb17 := NB354_349.out; have hnc17 := NB349_354.out; have hcz18_0 : w16.cell? ⟨gb354, 0, none⟩ = some (.int .i64 0) := (blk_cell BK354.out 0).trans rfl; have hcz18_1 : w16.cell? ⟨gb354, 1, none⟩ = some (.int .i64 0) := (blk_cell BK354.out 1).trans rfl; have hcz18_2 : w16.cell? ⟨gb354, 2, none⟩ = some (.bool false) := (blk_cell BK354.out 2).trans rfl; have hfz18_0 := blk_frozen BK354.out 0; have hfz18_1 := blk_frozen BK354.out 1; have hfz18_2 := blk_frozen BK354.out 2))
       go_ret
       exact ⟨by first | rfl | (simp [errW_none, errW_some] <;> rfl) | (simp [*, errW_none, errW_some] <;> rfl), by repeat (first | (with_reducible first | exact HB.out | apply below_alloc | apply pw_below_drewN | apply below_drew1 | refine below_set ?_ GE349.out | refine below_set ?_ GE354.out) | exact HB.out)⟩
     ·rw [if_neg c10] at H
      exact absurd H (by simp)
    ·rw [if_neg c9] at H
     exact absurd H (by simp)
   ·rw [if_neg c8] at H
    have c8b0 : decide (x11_1 < (t350.length : Int)) = false := decide_eq_false c8
    clear c8
    obtain rfl := Option.some.inj H
    go_wp2
    go_ret
    exact ⟨by first | rfl | (simp [errW_none, errW_some] <;> rfl) | (simp [*, errW_none, errW_some] <;> rfl), by repeat (first | (with_reducible first | exact HB.out | apply below_alloc | apply pw_below_drewN | apply below_drew1 | refine below_set ?_ GE349.out) | exact HB.out)⟩

end Go.Proofs.Ytmkhkkfliecfdaa.PT
