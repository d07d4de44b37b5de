-- Written by a program of this session. -- slim
import Derived.Test.YtmkhkkfliecfdaaPTx20
import Derived.Test.YtmkhkkfliecfdaaPTx24
namespace Go.Proofs.Ytmkhkkfliecfdaa.PT
open Go.RowKit Go.Proofs.YtmkhkkfliecfdaaW.PrintWords Go.Proofs.YtmkhkkfliecfdaaW.PrintLast Go.Proofs.Ytmkhkkfliecfdaa.Given Go.Proofs.Ytmkhkkfliecfdaa.Mm
attribute [local go_sem] mx_go mn_go
set_option linter.unusedVariables false
set_option linter.unusedSimpArgs false

attribute [local go_sem high] idx70
/-! ### spec_RangesCut: function 45 -/
def spec_RangesCut.l0 : Nat → List (S24) → List (S31) → Int → Int → Option ((List (S24)))
 | 0, _, _, _, _ => none
 | k + 1, x5, x10, x11, x12 => if x12 < x11 then (if 0 ≤ x12 then (if x12 < (x10.length : Int) then (if (rd_T31 x10 x12).f1 = true then (if x5.length < 8796093022208 then (spec_RangesCut.l0 k (x5 ++ [(⟨(rd_T31 x10 x12).f0.f0, (rd_T31 x10 x12).f0.f1⟩ : S24)]) x10 x11 (wrap64 (x12 + 1))) else (none)) else (spec_RangesCut.l0 k x5 x10 x11 (wrap64 (x12 + 1)))) else (none)) else (none)) else (some x5)
def spec_RangesCut.f (k : Nat) (l0 : List (S24)) (a1_0 : Int) (a1_1 : Int) : Option ((List (S24))) := (spec_RangeParts.f k l0 a1_0 a1_1).bind fun t362 => (spec_RangesCut.l0 k ([] : List (S24)) t362 (t362.length : Int) 0)
theorem spec_RangesCut.mono_l : ∀ k, (∀ y0 y1 y2 y3, LeO (spec_RangesCut.l0 k y0 y1 y2 y3) (spec_RangesCut.l0 (k + 1) y0 y1 y2 y3))
 | 0 => fun _ _ _ _ r h => by simp [spec_RangesCut.l0] at h
 | k + 1 => by
  have ih0 := spec_RangesCut.mono_l k
  ·intro y0 y1 y2 y3
   unfold spec_RangesCut.l0
   repeat' first
   | (with_reducible exact ih0 _ _ _ _)
   | (with_reducible exact spec_RangeParts.mono _ _ _ _)
   | (with_reducible exact LeO.refl _)
   | (with_reducible exact LeO.none _)
   | (with_reducible refine LeO.ite ?_ ?_)
   | (with_reducible refine LeO.bind ?_ (fun _ => ?_))
   | exact ih0 _ _ _ _
   | exact spec_RangeParts.mono _ _ _ _
   | exact LeO.none _
   | refine LeO.ite ?_ ?_
   | refine LeO.bind ?_ (fun _ => ?_)
theorem spec_RangesCut.mono : ∀ a0 a1 a2 k, LeO (spec_RangesCut.f k a0 a1 a2) (spec_RangesCut.f (k + 1) a0 a1 a2) := by
 intro a0 a1 a2 k
 have ih0 := spec_RangesCut.mono_l k
 unfold spec_RangesCut.f
 repeat' first
   | (with_reducible exact ih0 _ _ _ _)
   | (with_reducible exact spec_RangeParts.mono _ _ _ _)
   | (with_reducible exact LeO.refl _)
   | (with_reducible exact LeO.none _)
   | (with_reducible refine LeO.ite ?_ ?_)
   | (with_reducible refine LeO.bind ?_ (fun _ => ?_))
   | exact ih0 _ _ _ _
   | exact spec_RangeParts.mono _ _ _ _
   | exact LeO.none _
   | refine LeO.ite ?_ ?_
   | refine LeO.bind ?_ (fun _ => ?_)
set_option maxHeartbeats 8000000 in
set_option maxRecDepth 100000 in
theorem spec_RangesCut.calls (k : Nat) (A0 : Option Addr) (c0 : Nat) (l0 : List (S24)) (a1_0 : Int) (a1_1 : Int) (r : List (S24)) (w : World) (hr0 : Kd.C k24 w A0 l0.length l0) (hc0 : l0.length ≤ c0) (h : spec_RangesCut.f k l0 a1_0 a1_1 = some r) :
  Calls Try.prog 45 #[.slice A0 l0.length c0, .agg #[.int .i64 a1_0, .int .i64 a1_1]] w fun e w' => ∃ v0_ : Value, e = .returned (v0_) ∧ Kd.R k24 24 w' w.heap.size (fun _ => True) v0_ r ∧ Below w.heap.size w w' := by
 have hu24 := Try.underlying24
 have hu31 := Try.underlying31
 have HR0 := Aside0.mk hr0
 have HC0 := Aside0.mk hc0
 clear hr0 hc0
 have HB := Aside0.mk (Below.refl w.heap.size w)
 have H : ((spec_RangeParts.f k l0 a1_0 a1_1).bind fun t362 => (spec_RangesCut.l0 k ([] : List (S24)) t362 (t362.length : Int) 0)) = some r := h
 clear h
 replace H := Option.bind_eq_some_iff.mp H
 obtain ⟨t362, A30, H⟩ := H
 replace H : (spec_RangesCut.l0 k ([] : List (S24)) t362 (t362.length : Int) 0) = some r := H
 have A3 := Aside0.mk A30
 clear A30
 have H' := Aside0.mk H
 clear H
 go_enter Try.func45, Try.ntmps45
 go_wp2_with (first | ((with_reducible refine gate_dst (N := 3) rfl ?_); refine box_event ?hg (N := 3) ?hd (cs := #[.int .i64 a1_0, .int .i64 a1_1]) (t := 24) ?hr ?_; (case hd => rfl); (case hg => rfl); (case hr => first | (go_simp; done) | (go_simp; rfl)); intro gb361 hg w4 hbox hb; have n0_ := Aside0.mk (below_step (by repeat (first | (with_reducible first | exact HB.out | apply below_alloc | apply pw_below_drewN | apply below_drew1) | exact HB.out)) hb); have n1_ := Aside0.mk (hbox); have n2_ := Aside0.mk ((by rw [hg]; exact (below_size (by repeat (first | (with_reducible first | exact HB.out | apply below_alloc | apply pw_below_drewN | apply below_drew1) | exact HB.out))) : w.heap.size ≤ gb361)); have n3_ := Aside0.mk ((by rw [hg]; exact (below_size (by repeat (first | (with_reducible first | exact HB.out | apply below_alloc | apply pw_below_drewN | apply below_drew1) | exact HB.out))) : w.heap.size ≤ gb361)); clear HB; have HB := n0_; have BK361 := n1_; have GW361 := n2_; have GE361 := n3_; clear n0_ n1_ n2_ n3_; clear hb hbox hg; have hcz5_0 : w4.cell? ⟨gb361, 0, none⟩ = some (.int .i64 a1_0) := (blk_cell BK361.out 0).trans rfl; have hcz5_1 : w4.cell? ⟨gb361, 1, none⟩ = some (.int .i64 a1_1) := (blk_cell BK361.out 1).trans rfl; have hfz5_0 := blk_frozen BK361.out 0; have hfz5_1 := blk_frozen BK361.out 1) | ((with_reducible refine gate_dst (N := 10) rfl ?_); refine goesL_ (some 10) rfl rfl Try.func15 (by kernel_rfl) rfl #[.slice A0 l0.length c0, .agg #[.int .i64 a1_0, .int .i64 a1_1]] rfl (by (try simp only [List.map_toArray, List.map_cons, List.map_nil]); first | done | rfl | (simp only [List.length_drop, List.length_take]; rfl)) ?_; (with_reducible refine (spec_RangeParts.calls k _ _ l0 a1_0 a1_1 t362 _ ?side1 ?side2 A3.out).mono ?_); (case side1 => repeat (first | exact (Kd.C_below HR0.out HB.out) | (with_reducible refine Kd.C_alloc ?_ _) | (with_reducible refine Kd.C_drewN ?_ _) | (with_reducible refine Kd.C_drew ?_))); (case side2 => exact HC0.out); rintro e w6 ⟨v363, rfl, ho0, hb⟩; refine ⟨_, rfl, ?_⟩; have n0_ := Aside0.mk (Kd.R_lower ho0 (below_size (by repeat (first | (with_reducible first | exact HB.out | apply below_alloc | apply pw_below_drewN | apply below_drew1 | refine below_set ?_ GE361.out) | exact HB.out)))); have n1_ := Aside0.mk (blk_below (g := gb361) (o := .cells #[.int .i64 a1_0, .int .i64 a1_1] 24 (0, 0)) (by (with_reducible repeat (first | refine blk_drewN ?_ _ | refine blk_drew ?_ | refine blk_alloc ?_ _)); exact BK361.out) hb); have n2_ := Aside0.mk (below_step (by repeat (first | (with_reducible first | exact HB.out | apply below_alloc | apply pw_below_drewN | apply below_drew1 | refine below_set ?_ GE361.out) | exact HB.out)) hb); clear BK361; clear HB; have HO364 := n0_; have BK361 := n1_; have HB := n2_; clear n0_ n1_ n2_; (try clear hb); (try clear hb2); (try clear hk); (try clear hi); (try clear ho0); obtain ⟨Ao7, co7, eo7⟩ := Kd.R_slice HO364.out; subst eo7))
 go_loopg [5, 12] k (fun kq v5 v12 w' => ∃ (x5_1 : List (S24)) (x12_1 : Int), v12 = .int .i64 x12_1 ∧ Aside0 (spec_RangesCut.l0 kq x5_1 t362 (t362.length : Int) x12_1 = some r) ∧ Aside0 (kq ≤ k) ∧ Aside0 (Kd.R k24 24 w' w.heap.size (fun k_ => k_ ≠ gb361) v5 x5_1) ∧ Aside0 (Kd.R k31 31 w' w.heap.size (fun _ => True) (.slice Ao7 t362.length co7) t362) ∧ Aside0 (w'.heap[gb361]? = some (.cells #[.int .i64 a1_0, .int .i64 a1_1] 24 (0, 0))) ∧ Aside0 (Below w.heap.size w w'))
 case atStart => exact ⟨(([] : List (S24))), (0), (by first | rfl | (simp; done) | (simp [*]; done)), H', ⟨Nat.le_refl _⟩, ⟨by first | exact Kd.R_nil _ _ _ _ _ | exact Kd.N_nil _ _ _ _ _ | exact Kd.V_nil _ _ _ _ _ | exact Kd.Q_nil _ _ _ _ _ | exact Kd.S_nil _ _ _ _ _⟩, ⟨by (with_reducible repeat (first | apply Kd.R_alloc | apply Kd.R_drewN | apply Kd.R_drew)); exact HO364.out⟩, ⟨by (with_reducible repeat (first | refine blk_drewN ?_ _ | refine blk_drew ?_ | refine blk_alloc ?_ _)); exact BK361.out⟩, ⟨by repeat (first | (with_reducible first | exact HB.out | apply below_alloc | apply pw_below_drewN | apply below_drew1 | refine below_set ?_ GE361.out) | exact HB.out)⟩⟩
 case round =>
  clear H'
  try clear c1
  try clear p2
  try clear c4
  try clear hcz5_0
  try clear hcz5_1
  try clear hfz5_0
  try clear hfz5_1
  obtain ⟨x5_1, x12_1, rfl, HA, HK1, HO_5, HO_10, BK361, HB⟩ := hrel
  cases gk with
  | zero => exact absurd HA.out (by simp [spec_RangesCut.l0])
  | succ k1 =>
   have H := HA.out
   clear HA
   simp only [spec_RangesCut.l0] at H
   by_cases c8 : x12_1 < (t362.length : Int)
   ·rw [if_pos c8] at H
    have c8b0 : decide (x12_1 < (t362.length : Int)) = true := decide_eq_true c8
    clear c8
    by_cases c9 : 0 ≤ x12_1
    ·rw [if_pos c9] at H
     have c9b0 : decide (0 ≤ x12_1) = true := decide_eq_true c9
     clear c9
     by_cases c10 : x12_1 < (t362.length : Int)
     ·rw [if_pos c10] at H
      have c10b0 : decide (x12_1 < (t362.length : Int)) = true := decide_eq_true c10
      clear c10
      obtain ⟨bq11, hbq11⟩ : ∃ b_ : Bool, b_ = ((rd_T31 t362 x12_1).f1) := ⟨_, rfl⟩
      replace H : (if bq11 = true then (if x5_1.length < 8796093022208 then (spec_RangesCut.l0 k1 (x5_1 ++ [(⟨(rd_T31 t362 x12_1).f0.f0, (rd_T31 t362 x12_1).f0.f1⟩ : S24)]) t362 (t362.length : Int) (wrap64 (x12_1 + 1))) else (none)) else (spec_RangesCut.l0 k1 x5_1 t362 (t362.length : Int) (wrap64 (x12_1 + 1)))) = some r := by rw [← hbq11] at H; exact H
      have Nbq11 := Aside0.mk hbq11
      clear hbq11
      by_cases c12 : bq11 = true
      ·subst c12
       have H1 : (if x5_1.length < 8796093022208 then (spec_RangesCut.l0 k1 (x5_1 ++ [(⟨(rd_T31 t362 x12_1).f0.f0, (rd_T31 t362 x12_1).f0.f1⟩ : S24)]) t362 (t362.length : Int) (wrap64 (x12_1 + 1))) else (none)) = some r := by rw [if_pos rfl] at H; exact H
       clear H
       have H := H1
       clear H1
       by_cases c13 : x5_1.length < 8796093022208
       ·rw [if_pos c13] at H
        have LMc13 := Aside0.mk c13
        clear c13
        obtain ⟨y367, hy367⟩ : ∃ y_ : List (S24), y_ = (x5_1 ++ [(⟨(rd_T31 t362 x12_1).f0.f0, (rd_T31 t362 x12_1).f0.f1⟩ : S24)]) := ⟨_, rfl⟩
        replace H : (spec_RangesCut.l0 k1 y367 t362 (t362.length : Int) (wrap64 (x12_1 + 1))) = some r := by first | (rw [hy367]; with_reducible exact H) | (have H2_ := (Option.bind_some _ _).symm.trans H; rw [hy367]; with_reducible exact H2_) | (have H2_ := (Option.bind_some _ _).symm.trans H; with_reducible exact H2_) | with_reducible exact H | (rw [hy367]; exact H) | exact H
        have Ny367 := Aside0.mk hy367
        clear hy367
        have H' := Aside0.mk H
        clear H
        have p365 : 0 ≤ (x12_1 : Int) := of_decide_eq_true (by first | (with_reducible assumption) | assumption)
        have q365 : x12_1 < (t362.length : Int) := of_decide_eq_true (by first | (with_reducible assumption) | assumption)
        obtain ⟨ad365, e365, hx365_0, hx365_1, hx365_2⟩ := at_T31 (Kd.R_reads' HO_10.out).2.2 x12_1 p365 q365
        (try rw [← Nbq11.out] at hx365_2)
        cases e365
        replace p365 := eq_true p365
        replace q365 := eq_true q365
        go_wp2_with (first | ((with_reducible refine gate_dst (N := 7) rfl ?_); refine box_event ?hg (N := 7) ?hd (cs := #[.int .i64 0, .int .i64 0, .bool false]) (t := 31) ?hr ?_; (case hd => rfl); (case hg => rfl); (case hr => first | (go_simp; done) | (go_simp; rfl)); intro gb366 hg w14 hbox hb; have n0_ := Aside0.mk (Kd.R_below (by (with_reducible repeat (first | apply Kd.R_alloc | apply Kd.R_drewN | apply Kd.R_drew)); exact HO_5.out) hb); have n1_ := Aside0.mk (Kd.R_below (Kd.R_elderB (by (with_reducible repeat (first | apply Kd.R_alloc | apply Kd.R_drewN | apply Kd.R_drew)); exact HO_10.out) gb366 (Nat.le_of_eq hg.symm)) hb); have n2_ := Aside0.mk (blk_below (g := gb361) (o := .cells #[.int .i64 a1_0, .int .i64 a1_1] 24 (0, 0)) (by (with_reducible repeat (first | refine blk_drewN ?_ _ | refine blk_drew ?_ | refine blk_alloc ?_ _)); exact BK361.out) hb); have n3_ := Aside0.mk (below_step (by repeat (first | (with_reducible first | exact HB.out | apply below_alloc | apply pw_below_drewN | apply below_drew1 | refine below_set ?_ GE361.out) | exact HB.out)) hb); have n4_ := Aside0.mk (hbox); have n5_ := Aside0.mk ((by rw [hg]; exact (below_size (by repeat (first | (with_reducible first | exact HB.out | apply below_alloc | apply pw_below_drewN | apply below_drew1 | refine below_set ?_ GE361.out) | exact HB.out))) : w.heap.size ≤ gb366)); have n6_ := Aside0.mk ((by rw [hg]; exact (below_size (by repeat (first | (with_reducible first | exact HB.out | apply below_alloc | apply pw_below_drewN | apply below_drew1 | refine below_set ?_ GE361.out) | exact HB.out))) : w.heap.size ≤ gb366)); have n7_ := Aside0.mk ((by rw [hg]; exact Nat.ne_of_lt (blk_lt (g := gb361) (o := .cells #[.int .i64 a1_0, .int .i64 a1_1] 24 (0, 0)) (by (with_reducible repeat (first | refine blk_drewN ?_ _ | refine blk_drew ?_ | refine blk_alloc ?_ _)); exact BK361.out)) : gb361 ≠ gb366)); have n8_ := Aside0.mk ((by rw [hg]; exact Nat.ne_of_gt (blk_lt (g := gb361) (o := .cells #[.int .i64 a1_0, .int .i64 a1_1] 24 (0, 0)) (by (with_reducible repeat (first | refine blk_drewN ?_ _ | refine blk_drew ?_ | refine blk_alloc ?_ _)); exact BK361.out)) : gb366 ≠ gb361)); clear HO_5; clear HO_10; clear BK361; clear HB; have HO_5 := n0_; have HO_10 := n1_; have BK361 := n2_; have HB := n3_; have BK366 := n4_; have GW366 := n5_; have GE366 := n6_; have NB361_366 := n7_; have NB366_361 := n8_; clear n0_ n1_ n2_ n3_ n4_ n5_ n6_ n7_ n8_; clear hb hbox hg; have hnb15 := NB366_361.out; have hnc15 := NB361_366.out; have hcz16_0 : w14.cell? ⟨gb366, 0, none⟩ = some (.int .i64 0) := (blk_cell BK366.out 0).trans rfl; have hcz16_1 : w14.cell? ⟨gb366, 1, none⟩ = some (.int .i64 0) := (blk_cell BK366.out 1).trans rfl; have hcz16_2 : w14.cell? ⟨gb366, 2, none⟩ = some (.bool false) := (blk_cell BK366.out 2).trans rfl; have hfz16_0 := blk_frozen BK366.out 0; have hfz16_1 := blk_frozen BK366.out 1; have hfz16_2 := blk_frozen BK366.out 2) | (at_builtin; refine Kd.R_append k24 (w0 := w) w.heap.size rfl (.tmp 18) (.tmp 21) 22 24 (.agg #[(.int .i64 0), (.int .i64 0)]) 16 rfl Try.underlying22 info24 rfl (by decide) (by omega) u5 x5_1 (⟨(rd_T31 t362 x12_1).f0.f0, (rd_T31 t362 x12_1).f0.f1⟩ : S24) [.int .i64 ((rd_T31 t362 x12_1).f0.f0), .int .i64 ((rd_T31 t362 x12_1).f0.f1)] (fun k_ => k_ ≠ gb361) (fun _ => False) rfl (by first | (go_simp; done) | (go_simp; rfl)) ?aP (fun _ hk => hk.elim) ?aF ?aO ?aB ?aS ?aL ?_; (case aP => exact k24_mkM _ _ _ (⟨(rd_T31 t362 x12_1).f0.f0, (rd_T31 t362 x12_1).f0.f1⟩ : S24)); (case aB => exact (by repeat (first | (with_reducible first | exact HB.out | apply below_alloc | apply pw_below_drewN | apply below_drew1 | refine below_set ?_ GE361.out | refine below_set ?_ GE366.out) | exact HB.out))); (case aF => exact (fun k_ hk => Kd.freshB (g := gb361) (o := .cells #[.int .i64 a1_0, .int .i64 a1_1] 24 (0, 0)) (by (with_reducible repeat (first | refine blk_drewN ?_ _ | refine blk_drew ?_ | refine blk_alloc ?_ _)); refine blk_far ?_ NB361_366.out _; (with_reducible repeat (first | refine blk_drewN ?_ _ | refine blk_drew ?_ | refine blk_alloc ?_ _)); refine blk_far ?_ NB361_366.out _; (with_reducible repeat (first | refine blk_drewN ?_ _ | refine blk_drew ?_ | refine blk_alloc ?_ _)); refine blk_far ?_ NB361_366.out _; (with_reducible repeat (first | refine blk_drewN ?_ _ | refine blk_drew ?_ | refine blk_alloc ?_ _)); exact BK361.out) k_ hk)); (case aO => exact (by (with_reducible repeat (first | apply Kd.R_alloc | apply Kd.R_drewN | apply Kd.R_drew)); exact Kd.R_mono (Kd.R_far (p := ⟨gb366, 2, none⟩) (Kd.R_far (p := ⟨gb366, 1, none⟩) (Kd.R_far (p := ⟨gb366, 0, none⟩) (Kd.R_types HO_5.out BK366.out (by decide)) (fun _ hk => hk.2) (.int .i64 ((rd_T31 t362 x12_1).f0.f0))) (fun _ hk => hk.2) (.int .i64 ((rd_T31 t362 x12_1).f0.f1))) (fun _ hk => hk.2) (.bool true)) (fun _ hk => hk.1))); (case aS => exact (below_size (by repeat (first | (with_reducible first | exact HB.out | apply below_alloc | apply pw_below_drewN | apply below_drew1 | refine below_set ?_ GE361.out | refine below_set ?_ GE366.out) | exact HB.out)))); (case aL => have := LMc13.out; omega); intro v368 w17 ho hb hg hat; rw [← Ny367.out] at ho; have n0_ := Aside0.mk (Kd.R_over' (by (with_reducible repeat (first | apply Kd.R_alloc | apply Kd.R_drewN | apply Kd.R_drew)); exact (Kd.R_mono (Kd.R_far (p := ⟨gb366, 2, none⟩) (Kd.R_far (p := ⟨gb366, 1, none⟩) (Kd.R_far (p := ⟨gb366, 0, none⟩) (Kd.R_mono HO_10.out (fun k_ hk => (⟨hk, hk.2⟩ : _ ∧ k_ ≠ gb366))) (fun _ hk => hk.2) (.int .i64 ((rd_T31 t362 x12_1).f0.f0))) (fun _ hk => hk.2) (.int .i64 ((rd_T31 t362 x12_1).f0.f1))) (fun _ hk => hk.2) (.bool true)) (fun _ h_ => h_.1))) (Kd.R_typed (by (with_reducible repeat (first | apply Kd.R_alloc | apply Kd.R_drewN | apply Kd.R_drew)); exact (Kd.R_mono (Kd.R_far (p := ⟨gb366, 2, none⟩) (Kd.R_far (p := ⟨gb366, 1, none⟩) (Kd.R_far (p := ⟨gb366, 0, none⟩) (Kd.R_types HO_5.out BK366.out (by decide)) (fun _ hk => hk.2) (.int .i64 ((rd_T31 t362 x12_1).f0.f0))) (fun _ hk => hk.2) (.int .i64 ((rd_T31 t362 x12_1).f0.f1))) (fun _ hk => hk.2) (.bool true)) (fun _ h_ => h_.1)))) (by decide) hg); have n1_ := Aside0.mk (blk_grown (g := gb361) (o := .cells #[.int .i64 a1_0, .int .i64 a1_1] 24 (0, 0)) (by (with_reducible repeat (first | refine blk_drewN ?_ _ | refine blk_drew ?_ | refine blk_alloc ?_ _)); refine blk_far ?_ NB361_366.out _; (with_reducible repeat (first | refine blk_drewN ?_ _ | refine blk_drew ?_ | refine blk_alloc ?_ _)); refine blk_far ?_ NB361_366.out _; (with_reducible repeat (first | refine blk_drewN ?_ _ | refine blk_drew ?_ | refine blk_alloc ?_ _)); refine blk_far ?_ NB361_366.out _; (with_reducible repeat (first | refine blk_drewN ?_ _ | refine blk_drew ?_ | refine blk_alloc ?_ _)); exact BK361.out) hg (Kd.R_away HO_5.out (fun _ hk => hk))); have n2_ := Aside0.mk (blk_grown (g := gb366) (o := .cells #[.int .i64 ((rd_T31 t362 x12_1).f0.f0), .int .i64 ((rd_T31 t362 x12_1).f0.f1), .bool true] 31 (0, 0)) (by (with_reducible repeat (first | refine blk_drewN ?_ _ | refine blk_drew ?_ | refine blk_alloc ?_ _)); refine blk_put (cs := #[.int .i64 ((rd_T31 t362 x12_1).f0.f0), .int .i64 ((rd_T31 t362 x12_1).f0.f1), .bool false]) ?_ 2 _ rfl; (with_reducible repeat (first | refine blk_drewN ?_ _ | refine blk_drew ?_ | refine blk_alloc ?_ _)); refine blk_put (cs := #[.int .i64 ((rd_T31 t362 x12_1).f0.f0), .int .i64 0, .bool false]) ?_ 1 _ rfl; (with_reducible repeat (first | refine blk_drewN ?_ _ | refine blk_drew ?_ | refine blk_alloc ?_ _)); refine blk_put (cs := #[.int .i64 0, .int .i64 0, .bool false]) ?_ 0 _ rfl; (with_reducible repeat (first | refine blk_drewN ?_ _ | refine blk_drew ?_ | refine blk_alloc ?_ _)); exact BK366.out) hg (Kd.R_ne HO_5.out BK366.out (by decide))); have n3_ := Aside0.mk (hb); have n4_ := Aside0.mk (ho); clear HO_10; clear BK361; clear BK366; clear HB; clear HO_5; have HO_10 := n0_; have BK361 := n1_; have BK366 := n2_; have HB := n3_; have HO369 := n4_; clear n0_ n1_ n2_ n3_ n4_; clear ho hb hg hat))
        go_roundg k1
        case measure => have := HK1.out; omega
        case rel => exact ⟨(y367), (wrap64 (x12_1 + 1)), (by first | rfl | (simp; done) | (simp [*]; done)), H', ⟨by have := HK1.out; omega⟩, ⟨by (with_reducible repeat (first | apply Kd.R_alloc | apply Kd.R_drewN | apply Kd.R_drew)); exact HO369.out⟩, ⟨by (with_reducible repeat (first | apply Kd.R_alloc | apply Kd.R_drewN | apply Kd.R_drew)); exact Kd.R_mono HO_10.out (fun _ hk => trivial)⟩, ⟨by (with_reducible repeat (first | refine blk_drewN ?_ _ | refine blk_drew ?_ | refine blk_alloc ?_ _)); exact BK361.out⟩, ⟨by repeat (first | (with_reducible first | exact HB.out | apply below_alloc | apply pw_below_drewN | apply below_drew1 | refine below_set ?_ GE361.out | refine below_set ?_ GE366.out) | exact HB.out)⟩⟩
       ·rw [if_neg c13] at H
        exact absurd H (by simp)
      ·replace c12 := Bool.eq_false_iff.mpr c12
       subst c12
       have H1 : (spec_RangesCut.l0 k1 x5_1 t362 (t362.length : Int) (wrap64 (x12_1 + 1))) = some r := by rw [if_neg (show ¬ (false = true) by decide)] at H; exact H
       clear H
       have H := H1
       clear H1
       have H' := Aside0.mk H
       clear H
       have p365 : 0 ≤ (x12_1 : Int) := of_decide_eq_true (by first | (with_reducible assumption) | assumption)
       have q365 : x12_1 < (t362.length : Int) := of_decide_eq_true (by first | (with_reducible assumption) | assumption)
       obtain ⟨ad365, e365, hx365_0, hx365_1, hx365_2⟩ := at_T31 (Kd.R_reads' HO_10.out).2.2 x12_1 p365 q365
       (try rw [← Nbq11.out] at hx365_2)
       cases e365
       replace p365 := eq_true p365
       replace q365 := eq_true q365
       go_wp2_with (first | ((with_reducible refine gate_dst (N := 7) rfl ?_); refine box_event ?hg (N := 7) ?hd (cs := #[.int .i64 0, .int .i64 0, .bool false]) (t := 31) ?hr ?_; (case hd => rfl); (case hg => rfl); (case hr => first | (go_simp; done) | (go_simp; rfl)); intro gb366 hg w18 hbox hb; have n0_ := Aside0.mk (Kd.R_below (by (with_reducible repeat (first | apply Kd.R_alloc | apply Kd.R_drewN | apply Kd.R_drew)); exact HO_5.out) hb); have n1_ := Aside0.mk (Kd.R_below (Kd.R_elderB (by (with_reducible repeat (first | apply Kd.R_alloc | apply Kd.R_drewN | apply Kd.R_drew)); exact HO_10.out) gb366 (Nat.le_of_eq hg.symm)) hb); have n2_ := Aside0.mk (blk_below (g := gb361) (o := .cells #[.int .i64 a1_0, .int .i64 a1_1] 24 (0, 0)) (by (with_reducible repeat (first | refine blk_drewN ?_ _ | refine blk_drew ?_ | refine blk_alloc ?_ _)); exact BK361.out) hb); have n3_ := Aside0.mk (below_step (by repeat (first | (with_reducible first | exact HB.out | apply below_alloc | apply pw_below_drewN | apply below_drew1 | refine below_set ?_ GE361.out) | exact HB.out)) hb); have n4_ := Aside0.mk (hbox); have n5_ := Aside0.mk ((by rw [hg]; exact (below_size (by repeat (first | (with_reducible first | exact HB.out | apply below_alloc | apply pw_below_drewN | apply below_drew1 | refine below_set ?_ GE361.out) | exact HB.out))) : w.heap.size ≤ gb366)); have n6_ := Aside0.mk ((by rw [hg]; exact (below_size (by repeat (first | (with_reducible first | exact HB.out | apply below_alloc | apply pw_below_drewN | apply below_drew1 | refine below_set ?_ GE361.out) | exact HB.out))) : w.heap.size ≤ gb366)); have n7_ := Aside0.mk ((by rw [hg]; exact Nat.ne_of_lt (blk_lt (g := gb361) (o := .cells #[.int .i64 a1_0, .int .i64 a1_1] 24 (0, 0)) (by (with_reducible repeat (first | refine blk_drewN ?_ _ | refine blk_drew ?_ | refine blk_alloc ?_ _)); exact BK361.out)) : gb361 ≠ gb366)); have n8_ := Aside0.mk ((by rw [hg]; exact Nat.ne_of_gt (blk_lt (g := gb361) (o := .cells #[.int .i64 a1_0, .int .i64 a1_1] 24 (0, 0)) (by (with_reducible repeat (first | refine blk_drewN ?_ _ | refine blk_drew ?_ | refine blk_alloc ?_ _)); exact BK361.out)) : gb366 ≠ gb361)); clear HO_5; clear HO_10; clear BK361; clear HB; have HO_5 := n0_; have HO_10 := n1_; have BK361 := n2_; have HB := n3_; have BK366 := n4_; have GW366 := n5_; have GE366 := n6_; have NB361_366 := n7_; have NB366_361 := n8_; clear n0_ n1_ n2_ n3_ n4_ n5_ n6_ n7_ n8_; clear hb hbox hg; have hnb19 := NB366_361.out; have hnc19 := NB361_366.out; have hcz20_0 : w18.cell? ⟨gb366, 0, none⟩ = some (.int .i64 0) := (blk_cell BK366.out 0).trans rfl; have hcz20_1 : w18.cell? ⟨gb366, 1, none⟩ = some (.int .i64 0) := (blk_cell BK366.out 1).trans rfl; have hcz20_2 : w18.cell? ⟨gb366, 2, none⟩ = some (.bool false) := (blk_cell BK366.out 2).trans rfl; have hfz20_0 := blk_frozen BK366.out 0; have hfz20_1 := blk_frozen BK366.out 1; have hfz20_2 := blk_frozen BK366.out 2))
       go_roundg k1
       case measure => have := HK1.out; omega
       case rel => exact ⟨(x5_1), (wrap64 (x12_1 + 1)), (by first | rfl | (simp; done) | (simp [*]; done)), H', ⟨by have := HK1.out; omega⟩, ⟨by (with_reducible repeat (first | apply Kd.R_alloc | apply Kd.R_drewN | apply Kd.R_drew)); exact Kd.R_mono (Kd.R_far (p := ⟨gb366, 2, none⟩) (Kd.R_far (p := ⟨gb366, 1, none⟩) (Kd.R_far (p := ⟨gb366, 0, none⟩) (Kd.R_types HO_5.out BK366.out (by decide)) (fun _ hk => hk.2) (.int .i64 ((rd_T31 t362 x12_1).f0.f0))) (fun _ hk => hk.2) (.int .i64 ((rd_T31 t362 x12_1).f0.f1))) (fun _ hk => hk.2) (.bool false)) (fun _ hk => hk.1)⟩, ⟨by (with_reducible repeat (first | apply Kd.R_alloc | apply Kd.R_drewN | apply Kd.R_drew)); exact Kd.R_mono (Kd.R_far (p := ⟨gb366, 2, none⟩) (Kd.R_far (p := ⟨gb366, 1, none⟩) (Kd.R_far (p := ⟨gb366, 0, none⟩) (Kd.R_mono HO_10.out (fun k_ hk => (⟨hk, hk.2⟩ : _ ∧ k_ ≠ gb366))) (fun _ hk => hk.2) (.int .i64 ((rd_T31 t362 x12_1).f0.f0))) (fun _ hk => hk.2) (.int .i64 ((rd_T31 t362 x12_1).f0.f1))) (fun _ hk => hk.2) (.bool false)) (fun _ hk => trivial)⟩, ⟨by (with_reducible repeat (first | refine blk_drewN ?_ _ | refine blk_drew ?_ | refine blk_alloc ?_ _)); refine blk_far ?_ NB361_366.out _; (with_reducible repeat (first | refine blk_drewN ?_ _ | refine blk_drew ?_ | refine blk_alloc ?_ _)); refine blk_far ?_ NB361_366.out _; (with_reducible repeat (first | refine blk_drewN ?_ _ | refine blk_drew ?_ | refine blk_alloc ?_ _)); refine blk_far ?_ NB361_366.out _; (with_reducible repeat (first | refine blk_drewN ?_ _ | refine blk_drew ?_ | refine blk_alloc ?_ _)); exact BK361.out⟩, ⟨by repeat (first | (with_reducible first | exact HB.out | apply below_alloc | apply pw_below_drewN | apply below_drew1 | refine below_set ?_ GE361.out | refine below_set ?_ GE366.out) | exact HB.out)⟩⟩
     ·rw [if_neg c10] at H
      exact absurd H (by simp)
    ·rw [if_neg c9] at H
     exact absurd H (by simp)
   ·rw [if_neg c8] at H
    have c8b0 : decide (x12_1 < (t362.length : Int)) = false := decide_eq_false c8
    clear c8
    obtain rfl := Option.some.inj H
    go_wp2
    go_ret
    exact ⟨_, by first | rfl | (simp [errW_none, errW_some] <;> rfl) | (simp [*, errW_none, errW_some] <;> rfl), by (with_reducible repeat (first | apply Kd.R_alloc | apply Kd.R_drewN | apply Kd.R_drew)); exact Kd.R_mono HO_5.out (fun _ hk => trivial), by repeat (first | (with_reducible first | exact HB.out | apply below_alloc | apply pw_below_drewN | apply below_drew1 | refine below_set ?_ GE361.out) | exact HB.out)⟩

end Go.Proofs.Ytmkhkkfliecfdaa.PT
