-- Written by a program of this session.
import Derived.Test.YtgdjplpbpknfmaaPRx0
import Derived.Test.YtgdjplpbpknfmaaPRx1
namespace Go.Proofs.Ytgdjplpbpknfmaa.PR
open Go.RowKit Go.Proofs.YtgdjplpbpknfmaaW.PrintWords Go.Proofs.YtgdjplpbpknfmaaW.PrintLast Go.Proofs.YtgdjplpbpknfmaaW.PrintMore Go.Proofs.Ytgdjplpbpknfmaa.Given
attribute [local go_sem] max2_int min2_int max_two min_two max_three min_three max_four min_four   -- for this text's walks alone
set_option linter.unusedVariables false
set_option linter.unusedSimpArgs false

/-! ### spec_PaceNext: function 11 -/
mutual
def spec_PaceNext.j0 : Nat → Bool → Bool → Int → Int → Int → Int → Int → Int → Int → Int → Option (Int)
  | 0, _, _, _, _, _, _, _, _, _, _ => none
  | k + 1, x1, x30, x106000, x106001, x106002, x106003, x107000, x107001, x107002, x107003 => if x30 = true then (some (mx x107002 x106000)) else (if x107001 > 0 then ((spec_power.f k x106003).bind fun t111 => (if x106003 = 0 then (some x106001) else (if x1 = true then (spec_PaceNext.j1 k t111 (x107000 == 0) x106000 x106001 x106002 x106003 x107000 x107001 x107002 x107003) else (spec_PaceNext.j1 k t111 false x106000 x106001 x106002 x106003 x107000 x107001 x107002 x107003)))) else ((spec_power.f k x106002).bind fun t112 => (if t112 = 0 then (none) else (if x1 = true then (if (wrap64 (Int.tdiv (wrap64 (x107000 * (wrap64 (t112 - 1)))) t112)) < x106000 then (some 0) else (some (mx (wrap64 (Int.tdiv (wrap64 (x107000 * (wrap64 (t112 - 1)))) t112)) x106000))) else (some (mx (wrap64 (Int.tdiv (wrap64 (x107000 * (wrap64 (t112 - 1)))) t112)) x106000))))))
def spec_PaceNext.j1 : Nat → Int → Bool → Int → Int → Int → Int → Int → Int → Int → Int → Option (Int)
  | 0, _, _, _, _, _, _, _, _, _, _ => none
  | k + 1, x7, x48, x106000, x106001, x106002, x106003, x107000, x107001, x107002, x107003 => if x48 = true then (some x106000) else (if (wrap64 (x7 - 1)) = 0 then (none) else (some (mn (wrap64 (Int.tdiv (wrap64 (x107000 * x7)) (wrap64 (x7 - 1)))) x106001)))
end
def spec_PaceNext.f (k : Nat) (a0_0 : Int) (a0_1 : Int) (a0_2 : Int) (a0_3 : Int) (a1 : Bool) (a2_0 : Int) (a2_1 : Int) (a2_2 : Int) (a2_3 : Int) : Option (Int) := (spec_PaceGiven.f k a0_0 a0_1 a0_2 a0_3 a1).bind fun bt107 => (if a2_2 ≥ 0 then (if a2_1 > 0 then (spec_PaceNext.j0 k a1 true bt107.1 bt107.2.1 bt107.2.2.1 bt107.2.2.2 a2_0 a2_1 a2_2 a2_3) else (if a2_2 > 0 then (spec_PaceNext.j0 k a1 true bt107.1 bt107.2.1 bt107.2.2.1 bt107.2.2.2 a2_0 a2_1 a2_2 a2_3) else (spec_PaceNext.j0 k a1 (decide (a2_3 > 0)) bt107.1 bt107.2.1 bt107.2.2.1 bt107.2.2.2 a2_0 a2_1 a2_2 a2_3))) else (spec_PaceNext.j0 k a1 false bt107.1 bt107.2.1 bt107.2.2.1 bt107.2.2.2 a2_0 a2_1 a2_2 a2_3))
theorem spec_PaceNext.mono_l : ∀ k, (∀ y0 y1 y2 y3 y4 y5 y6 y7 y8 y9, LeO (spec_PaceNext.j0 k y0 y1 y2 y3 y4 y5 y6 y7 y8 y9) (spec_PaceNext.j0 (k + 1) y0 y1 y2 y3 y4 y5 y6 y7 y8 y9)) ∧ (∀ y0 y1 y2 y3 y4 y5 y6 y7 y8 y9, LeO (spec_PaceNext.j1 k y0 y1 y2 y3 y4 y5 y6 y7 y8 y9) (spec_PaceNext.j1 (k + 1) y0 y1 y2 y3 y4 y5 y6 y7 y8 y9))
  | 0 => ⟨fun _ _ _ _ _ _ _ _ _ _ r h => by simp [spec_PaceNext.j0] at h, fun _ _ _ _ _ _ _ _ _ _ r h => by simp [spec_PaceNext.j1] at h⟩
  | k + 1 => by
    obtain ⟨ih0, ih1⟩ := spec_PaceNext.mono_l k
    refine ⟨?_, ?_⟩
    · intro y0 y1 y2 y3 y4 y5 y6 y7 y8 y9
      unfold spec_PaceNext.j0
      repeat' first
      | (with_reducible exact ih0 _ _ _ _ _ _ _ _ _ _)
      | (with_reducible exact ih1 _ _ _ _ _ _ _ _ _ _)
      | (with_reducible exact spec_PaceGiven.mono _ _ _ _ _ _)
      | (with_reducible exact spec_power.mono _ _)
      | (with_reducible exact LeO.refl _)
      | (with_reducible exact LeO.none _)
      | (with_reducible refine LeO.ite ?_ ?_)
      | (with_reducible refine LeO.bind ?_ (fun _ => ?_))
      | exact ih0 _ _ _ _ _ _ _ _ _ _
      | exact ih1 _ _ _ _ _ _ _ _ _ _
      | exact spec_PaceGiven.mono _ _ _ _ _ _
      | exact spec_power.mono _ _
      | exact LeO.none _
      | refine LeO.ite ?_ ?_
      | refine LeO.bind ?_ (fun _ => ?_)
    · intro y0 y1 y2 y3 y4 y5 y6 y7 y8 y9
      unfold spec_PaceNext.j1
      repeat' first
      | (with_reducible exact ih0 _ _ _ _ _ _ _ _ _ _)
      | (with_reducible exact ih1 _ _ _ _ _ _ _ _ _ _)
      | (with_reducible exact spec_PaceGiven.mono _ _ _ _ _ _)
      | (with_reducible exact spec_power.mono _ _)
      | (with_reducible exact LeO.refl _)
      | (with_reducible exact LeO.none _)
      | (with_reducible refine LeO.ite ?_ ?_)
      | (with_reducible refine LeO.bind ?_ (fun _ => ?_))
      | exact ih0 _ _ _ _ _ _ _ _ _ _
      | exact ih1 _ _ _ _ _ _ _ _ _ _
      | exact spec_PaceGiven.mono _ _ _ _ _ _
      | exact spec_power.mono _ _
      | exact LeO.none _
      | refine LeO.ite ?_ ?_
      | refine LeO.bind ?_ (fun _ => ?_)
theorem spec_PaceNext.mono : ∀ a0 a1 a2 a3 a4 a5 a6 a7 a8 k, LeO (spec_PaceNext.f k a0 a1 a2 a3 a4 a5 a6 a7 a8) (spec_PaceNext.f (k + 1) a0 a1 a2 a3 a4 a5 a6 a7 a8) := by
  intro a0 a1 a2 a3 a4 a5 a6 a7 a8 k
  obtain ⟨ih0, ih1⟩ := spec_PaceNext.mono_l k
  unfold spec_PaceNext.f
  repeat' first
      | (with_reducible exact ih0 _ _ _ _ _ _ _ _ _ _)
      | (with_reducible exact ih1 _ _ _ _ _ _ _ _ _ _)
      | (with_reducible exact spec_PaceGiven.mono _ _ _ _ _ _)
      | (with_reducible exact spec_power.mono _ _)
      | (with_reducible exact LeO.refl _)
      | (with_reducible exact LeO.none _)
      | (with_reducible refine LeO.ite ?_ ?_)
      | (with_reducible refine LeO.bind ?_ (fun _ => ?_))
      | exact ih0 _ _ _ _ _ _ _ _ _ _
      | exact ih1 _ _ _ _ _ _ _ _ _ _
      | exact spec_PaceGiven.mono _ _ _ _ _ _
      | exact spec_power.mono _ _
      | exact LeO.none _
      | refine LeO.ite ?_ ?_
      | refine LeO.bind ?_ (fun _ => ?_)
set_option maxHeartbeats 8000000 in
set_option maxRecDepth 100000 in
theorem spec_PaceNext.calls (k : Nat) (a0_0 : Int) (a0_1 : Int) (a0_2 : Int) (a0_3 : Int) (a1 : Bool) (a2_0 : Int) (a2_1 : Int) (a2_2 : Int) (a2_3 : Int) (r : Int) (w : World) (h : spec_PaceNext.f k a0_0 a0_1 a0_2 a0_3 a1 a2_0 a2_1 a2_2 a2_3 = some r) :
    Calls Try.prog 11 #[.agg #[.int .i64 a0_0, .int .i64 a0_1, .int .i64 a0_2, .int .i64 a0_3], .bool a1, .agg #[.int .i64 a2_0, .int .i64 a2_1, .int .i64 a2_2, .int .i64 a2_3]] w fun e w' => e = .returned (.int .i64 r) ∧ Below w.heap.size w w' := by
  have hu26 := Try.underlying26
  have hu23 := Try.underlying23
  have HB := Aside0.mk (Below.refl w.heap.size w)
  have H : ((spec_PaceGiven.f k a0_0 a0_1 a0_2 a0_3 a1).bind fun bt107 => (if a2_2 ≥ 0 then (if a2_1 > 0 then (spec_PaceNext.j0 k a1 true bt107.1 bt107.2.1 bt107.2.2.1 bt107.2.2.2 a2_0 a2_1 a2_2 a2_3) else (if a2_2 > 0 then (spec_PaceNext.j0 k a1 true bt107.1 bt107.2.1 bt107.2.2.1 bt107.2.2.2 a2_0 a2_1 a2_2 a2_3) else (spec_PaceNext.j0 k a1 (decide (a2_3 > 0)) bt107.1 bt107.2.1 bt107.2.2.1 bt107.2.2.2 a2_0 a2_1 a2_2 a2_3))) else (spec_PaceNext.j0 k a1 false bt107.1 bt107.2.1 bt107.2.2.1 bt107.2.2.2 a2_0 a2_1 a2_2 a2_3))) = some r := h
  clear h
  replace H := Option.bind_eq_some_iff.mp H
  obtain ⟨⟨t107, t108, t109, t110⟩, A40, H⟩ := H
  replace H : (if a2_2 ≥ 0 then (if a2_1 > 0 then (spec_PaceNext.j0 k a1 true t107 t108 t109 t110 a2_0 a2_1 a2_2 a2_3) else (if a2_2 > 0 then (spec_PaceNext.j0 k a1 true t107 t108 t109 t110 a2_0 a2_1 a2_2 a2_3) else (spec_PaceNext.j0 k a1 (decide (a2_3 > 0)) t107 t108 t109 t110 a2_0 a2_1 a2_2 a2_3))) else (spec_PaceNext.j0 k a1 false t107 t108 t109 t110 a2_0 a2_1 a2_2 a2_3)) = some r := H
  have A4 := Aside0.mk A40
  clear A40
  have HC5 := Aside0.mk H
  clear H
  go_enter Try.func11, Try.ntmps11
  go_upto_region 2 with (first | ((with_reducible refine gate_dst (N := 3) rfl ?_); refine box_event ?hg (N := 3) ?hd (cs := #[.int .i64 a0_0, .int .i64 a0_1, .int .i64 a0_2, .int .i64 a0_3]) (t := 26) ?hr ?_; (case hd => rfl); (case hg => rfl); (case hr => first | (go_simp; done) | (go_simp; rfl)); intro gb105 hg w6 hbox hb; have n0_ := Aside0.mk (below_step (by repeat (first | (with_reducible first | exact HB.out | apply below_alloc | apply pw_below_drewN | apply below_drew1) | exact HB.out)) hb); have n1_ := Aside0.mk (hbox); have n2_ := Aside0.mk ((by rw [hg]; exact (below_size (by repeat (first | (with_reducible first | exact HB.out | apply below_alloc | apply pw_below_drewN | apply below_drew1) | exact HB.out))) : w.heap.size ≤ gb105)); have n3_ := Aside0.mk ((by rw [hg]; exact (below_size (by repeat (first | (with_reducible first | exact HB.out | apply below_alloc | apply pw_below_drewN | apply below_drew1) | exact HB.out))) : w.heap.size ≤ gb105)); clear HB; have HB := n0_; have BK105 := n1_; have GW105 := n2_; have GE105 := n3_; clear n0_ n1_ n2_ n3_; clear hb hbox hg) | ((with_reducible refine gate_dst (N := 5) rfl ?_); refine box_event ?hg (N := 5) ?hd (cs := #[.int .i64 a2_0, .int .i64 a2_1, .int .i64 a2_2, .int .i64 a2_3]) (t := 23) ?hr ?_; (case hd => rfl); (case hg => rfl); (case hr => first | (go_simp; done) | (go_simp; rfl)); intro gb106 hg w7 hbox hb; have n0_ := Aside0.mk (blk_below (g := gb105) (o := .cells #[.int .i64 a0_0, .int .i64 a0_1, .int .i64 a0_2, .int .i64 a0_3] 26 (0, 0)) (by (with_reducible repeat (first | refine blk_drewN ?_ _ | refine blk_drew ?_ | refine blk_alloc ?_ _)); exact BK105.out) hb); have n1_ := Aside0.mk (below_step (by repeat (first | (with_reducible first | exact HB.out | apply below_alloc | apply pw_below_drewN | apply below_drew1 | refine below_set ?_ GE105.out) | exact HB.out)) hb); have n2_ := Aside0.mk (hbox); have n3_ := Aside0.mk ((by rw [hg]; exact (below_size (by repeat (first | (with_reducible first | exact HB.out | apply below_alloc | apply pw_below_drewN | apply below_drew1 | refine below_set ?_ GE105.out) | exact HB.out))) : w.heap.size ≤ gb106)); have n4_ := Aside0.mk ((by rw [hg]; exact (below_size (by repeat (first | (with_reducible first | exact HB.out | apply below_alloc | apply pw_below_drewN | apply below_drew1 | refine below_set ?_ GE105.out) | exact HB.out))) : w.heap.size ≤ gb106)); have n5_ := Aside0.mk ((by rw [hg]; exact Nat.ne_of_lt (blk_lt (g := gb105) (o := .cells #[.int .i64 a0_0, .int .i64 a0_1, .int .i64 a0_2, .int .i64 a0_3] 26 (0, 0)) (by (with_reducible repeat (first | refine blk_drewN ?_ _ | refine blk_drew ?_ | refine blk_alloc ?_ _)); exact BK105.out)) : gb105 ≠ gb106)); have n6_ := Aside0.mk ((by rw [hg]; exact Nat.ne_of_gt (blk_lt (g := gb105) (o := .cells #[.int .i64 a0_0, .int .i64 a0_1, .int .i64 a0_2, .int .i64 a0_3] 26 (0, 0)) (by (with_reducible repeat (first | refine blk_drewN ?_ _ | refine blk_drew ?_ | refine blk_alloc ?_ _)); exact BK105.out)) : gb106 ≠ gb105)); clear BK105; clear HB; have BK105 := n0_; have HB := n1_; have BK106 := n2_; have GW106 := n3_; have GE106 := n4_; have NB105_106 := n5_; have NB106_105 := n6_; clear n0_ n1_ n2_ n3_ n4_ n5_ n6_; clear hb hbox hg; have hnb8 := NB105_106.out; have hnc8 := NB106_105.out; have hcz9_0 : w7.cell? ⟨gb105, 0, none⟩ = some (.int .i64 a0_0) := (blk_cell BK105.out 0).trans rfl; have hcz9_1 : w7.cell? ⟨gb105, 1, none⟩ = some (.int .i64 a0_1) := (blk_cell BK105.out 1).trans rfl; have hcz9_2 : w7.cell? ⟨gb105, 2, none⟩ = some (.int .i64 a0_2) := (blk_cell BK105.out 2).trans rfl; have hcz9_3 : w7.cell? ⟨gb105, 3, none⟩ = some (.int .i64 a0_3) := (blk_cell BK105.out 3).trans rfl; have hfz9_0 := blk_frozen BK105.out 0; have hfz9_1 := blk_frozen BK105.out 1; have hfz9_2 := blk_frozen BK105.out 2; have hfz9_3 := blk_frozen BK105.out 3) | (go_at_call 13; (with_reducible refine (spec_PaceGiven.calls k a0_0 a0_1 a0_2 a0_3 a1 t107 t108 t109 t110 _ A4.out).mono ?_); rintro e w10 ⟨rfl, hb⟩; have n0_ := Aside0.mk (blk_below (g := gb105) (o := .cells #[.int .i64 a0_0, .int .i64 a0_1, .int .i64 a0_2, .int .i64 a0_3] 26 (0, 0)) (by (with_reducible repeat (first | refine blk_drewN ?_ _ | refine blk_drew ?_ | refine blk_alloc ?_ _)); exact BK105.out) hb); have n1_ := Aside0.mk (blk_below (g := gb106) (o := .cells #[.int .i64 a2_0, .int .i64 a2_1, .int .i64 a2_2, .int .i64 a2_3] 23 (0, 0)) (by (with_reducible repeat (first | refine blk_drewN ?_ _ | refine blk_drew ?_ | refine blk_alloc ?_ _)); exact BK106.out) hb); have n2_ := Aside0.mk (below_step (by repeat (first | (with_reducible first | exact HB.out | apply below_alloc | apply pw_below_drewN | apply below_drew1 | refine below_set ?_ GE105.out | refine below_set ?_ GE106.out) | exact HB.out)) hb); clear BK105; clear BK106; clear HB; have BK105 := n0_; have BK106 := n1_; have HB := n2_; clear n0_ n1_ n2_; (try clear hb); (try clear hb2); (try clear hk); (try clear hi); have hcz11_0 : w10.cell? ⟨gb105, 0, none⟩ = some (.int .i64 a0_0) := (blk_cell BK105.out 0).trans rfl; have hcz11_1 : w10.cell? ⟨gb105, 1, none⟩ = some (.int .i64 a0_1) := (blk_cell BK105.out 1).trans rfl; have hcz11_2 : w10.cell? ⟨gb105, 2, none⟩ = some (.int .i64 a0_2) := (blk_cell BK105.out 2).trans rfl; have hcz11_3 : w10.cell? ⟨gb105, 3, none⟩ = some (.int .i64 a0_3) := (blk_cell BK105.out 3).trans rfl; have hfz11_0 := blk_frozen BK105.out 0; have hfz11_1 := blk_frozen BK105.out 1; have hfz11_2 := blk_frozen BK105.out 2; have hfz11_3 := blk_frozen BK105.out 3))
  repeat (go_quiet (first | ((with_reducible refine gate_dst (N := 3) rfl ?_); refine box_event ?hg (N := 3) ?hd (cs := #[.int .i64 a0_0, .int .i64 a0_1, .int .i64 a0_2, .int .i64 a0_3]) (t := 26) ?hr ?_; (case hd => rfl); (case hg => rfl); (case hr => first | (go_simp; done) | (go_simp; rfl)); intro gb105 hg w6 hbox hb; have n0_ := Aside0.mk (below_step (by repeat (first | (with_reducible first | exact HB.out | apply below_alloc | apply pw_below_drewN | apply below_drew1) | exact HB.out)) hb); have n1_ := Aside0.mk (hbox); have n2_ := Aside0.mk ((by rw [hg]; exact (below_size (by repeat (first | (with_reducible first | exact HB.out | apply below_alloc | apply pw_below_drewN | apply below_drew1) | exact HB.out))) : w.heap.size ≤ gb105)); have n3_ := Aside0.mk ((by rw [hg]; exact (below_size (by repeat (first | (with_reducible first | exact HB.out | apply below_alloc | apply pw_below_drewN | apply below_drew1) | exact HB.out))) : w.heap.size ≤ gb105)); clear HB; have HB := n0_; have BK105 := n1_; have GW105 := n2_; have GE105 := n3_; clear n0_ n1_ n2_ n3_; clear hb hbox hg) | ((with_reducible refine gate_dst (N := 5) rfl ?_); refine box_event ?hg (N := 5) ?hd (cs := #[.int .i64 a2_0, .int .i64 a2_1, .int .i64 a2_2, .int .i64 a2_3]) (t := 23) ?hr ?_; (case hd => rfl); (case hg => rfl); (case hr => first | (go_simp; done) | (go_simp; rfl)); intro gb106 hg w7 hbox hb; have n0_ := Aside0.mk (blk_below (g := gb105) (o := .cells #[.int .i64 a0_0, .int .i64 a0_1, .int .i64 a0_2, .int .i64 a0_3] 26 (0, 0)) (by (with_reducible repeat (first | refine blk_drewN ?_ _ | refine blk_drew ?_ | refine blk_alloc ?_ _)); exact BK105.out) hb); have n1_ := Aside0.mk (below_step (by repeat (first | (with_reducible first | exact HB.out | apply below_alloc | apply pw_below_drewN | apply below_drew1 | refine below_set ?_ GE105.out) | exact HB.out)) hb); have n2_ := Aside0.mk (hbox); have n3_ := Aside0.mk ((by rw [hg]; exact (below_size (by repeat (first | (with_reducible first | exact HB.out | apply below_alloc | apply pw_below_drewN | apply below_drew1 | refine below_set ?_ GE105.out) | exact HB.out))) : w.heap.size ≤ gb106)); have n4_ := Aside0.mk ((by rw [hg]; exact (below_size (by repeat (first | (with_reducible first | exact HB.out | apply below_alloc | apply pw_below_drewN | apply below_drew1 | refine below_set ?_ GE105.out) | exact HB.out))) : w.heap.size ≤ gb106)); have n5_ := Aside0.mk ((by rw [hg]; exact Nat.ne_of_lt (blk_lt (g := gb105) (o := .cells #[.int .i64 a0_0, .int .i64 a0_1, .int .i64 a0_2, .int .i64 a0_3] 26 (0, 0)) (by (with_reducible repeat (first | refine blk_drewN ?_ _ | refine blk_drew ?_ | refine blk_alloc ?_ _)); exact BK105.out)) : gb105 ≠ gb106)); have n6_ := Aside0.mk ((by rw [hg]; exact Nat.ne_of_gt (blk_lt (g := gb105) (o := .cells #[.int .i64 a0_0, .int .i64 a0_1, .int .i64 a0_2, .int .i64 a0_3] 26 (0, 0)) (by (with_reducible repeat (first | refine blk_drewN ?_ _ | refine blk_drew ?_ | refine blk_alloc ?_ _)); exact BK105.out)) : gb106 ≠ gb105)); clear BK105; clear HB; have BK105 := n0_; have HB := n1_; have BK106 := n2_; have GW106 := n3_; have GE106 := n4_; have NB105_106 := n5_; have NB106_105 := n6_; clear n0_ n1_ n2_ n3_ n4_ n5_ n6_; clear hb hbox hg; have hnb8 := NB105_106.out; have hnc8 := NB106_105.out; have hcz9_0 : w7.cell? ⟨gb105, 0, none⟩ = some (.int .i64 a0_0) := (blk_cell BK105.out 0).trans rfl; have hcz9_1 : w7.cell? ⟨gb105, 1, none⟩ = some (.int .i64 a0_1) := (blk_cell BK105.out 1).trans rfl; have hcz9_2 : w7.cell? ⟨gb105, 2, none⟩ = some (.int .i64 a0_2) := (blk_cell BK105.out 2).trans rfl; have hcz9_3 : w7.cell? ⟨gb105, 3, none⟩ = some (.int .i64 a0_3) := (blk_cell BK105.out 3).trans rfl; have hfz9_0 := blk_frozen BK105.out 0; have hfz9_1 := blk_frozen BK105.out 1; have hfz9_2 := blk_frozen BK105.out 2; have hfz9_3 := blk_frozen BK105.out 3) | (go_at_call 13; (with_reducible refine (spec_PaceGiven.calls k a0_0 a0_1 a0_2 a0_3 a1 t107 t108 t109 t110 _ A4.out).mono ?_); rintro e w10 ⟨rfl, hb⟩; have n0_ := Aside0.mk (blk_below (g := gb105) (o := .cells #[.int .i64 a0_0, .int .i64 a0_1, .int .i64 a0_2, .int .i64 a0_3] 26 (0, 0)) (by (with_reducible repeat (first | refine blk_drewN ?_ _ | refine blk_drew ?_ | refine blk_alloc ?_ _)); exact BK105.out) hb); have n1_ := Aside0.mk (blk_below (g := gb106) (o := .cells #[.int .i64 a2_0, .int .i64 a2_1, .int .i64 a2_2, .int .i64 a2_3] 23 (0, 0)) (by (with_reducible repeat (first | refine blk_drewN ?_ _ | refine blk_drew ?_ | refine blk_alloc ?_ _)); exact BK106.out) hb); have n2_ := Aside0.mk (below_step (by repeat (first | (with_reducible first | exact HB.out | apply below_alloc | apply pw_below_drewN | apply below_drew1 | refine below_set ?_ GE105.out | refine below_set ?_ GE106.out) | exact HB.out)) hb); clear BK105; clear BK106; clear HB; have BK105 := n0_; have BK106 := n1_; have HB := n2_; clear n0_ n1_ n2_; (try clear hb); (try clear hb2); (try clear hk); (try clear hi); have hcz11_0 : w10.cell? ⟨gb105, 0, none⟩ = some (.int .i64 a0_0) := (blk_cell BK105.out 0).trans rfl; have hcz11_1 : w10.cell? ⟨gb105, 1, none⟩ = some (.int .i64 a0_1) := (blk_cell BK105.out 1).trans rfl; have hcz11_2 : w10.cell? ⟨gb105, 2, none⟩ = some (.int .i64 a0_2) := (blk_cell BK105.out 2).trans rfl; have hcz11_3 : w10.cell? ⟨gb105, 3, none⟩ = some (.int .i64 a0_3) := (blk_cell BK105.out 3).trans rfl; have hfz11_0 := blk_frozen BK105.out 0; have hfz11_1 := blk_frozen BK105.out 1; have hfz11_2 := blk_frozen BK105.out 2; have hfz11_3 := blk_frozen BK105.out 3)); go_upto_region 2 with (first | ((with_reducible refine gate_dst (N := 3) rfl ?_); refine box_event ?hg (N := 3) ?hd (cs := #[.int .i64 a0_0, .int .i64 a0_1, .int .i64 a0_2, .int .i64 a0_3]) (t := 26) ?hr ?_; (case hd => rfl); (case hg => rfl); (case hr => first | (go_simp; done) | (go_simp; rfl)); intro gb105 hg w6 hbox hb; have n0_ := Aside0.mk (below_step (by repeat (first | (with_reducible first | exact HB.out | apply below_alloc | apply pw_below_drewN | apply below_drew1) | exact HB.out)) hb); have n1_ := Aside0.mk (hbox); have n2_ := Aside0.mk ((by rw [hg]; exact (below_size (by repeat (first | (with_reducible first | exact HB.out | apply below_alloc | apply pw_below_drewN | apply below_drew1) | exact HB.out))) : w.heap.size ≤ gb105)); have n3_ := Aside0.mk ((by rw [hg]; exact (below_size (by repeat (first | (with_reducible first | exact HB.out | apply below_alloc | apply pw_below_drewN | apply below_drew1) | exact HB.out))) : w.heap.size ≤ gb105)); clear HB; have HB := n0_; have BK105 := n1_; have GW105 := n2_; have GE105 := n3_; clear n0_ n1_ n2_ n3_; clear hb hbox hg) | ((with_reducible refine gate_dst (N := 5) rfl ?_); refine box_event ?hg (N := 5) ?hd (cs := #[.int .i64 a2_0, .int .i64 a2_1, .int .i64 a2_2, .int .i64 a2_3]) (t := 23) ?hr ?_; (case hd => rfl); (case hg => rfl); (case hr => first | (go_simp; done) | (go_simp; rfl)); intro gb106 hg w7 hbox hb; have n0_ := Aside0.mk (blk_below (g := gb105) (o := .cells #[.int .i64 a0_0, .int .i64 a0_1, .int .i64 a0_2, .int .i64 a0_3] 26 (0, 0)) (by (with_reducible repeat (first | refine blk_drewN ?_ _ | refine blk_drew ?_ | refine blk_alloc ?_ _)); exact BK105.out) hb); have n1_ := Aside0.mk (below_step (by repeat (first | (with_reducible first | exact HB.out | apply below_alloc | apply pw_below_drewN | apply below_drew1 | refine below_set ?_ GE105.out) | exact HB.out)) hb); have n2_ := Aside0.mk (hbox); have n3_ := Aside0.mk ((by rw [hg]; exact (below_size (by repeat (first | (with_reducible first | exact HB.out | apply below_alloc | apply pw_below_drewN | apply below_drew1 | refine below_set ?_ GE105.out) | exact HB.out))) : w.heap.size ≤ gb106)); have n4_ := Aside0.mk ((by rw [hg]; exact (below_size (by repeat (first | (with_reducible first | exact HB.out | apply below_alloc | apply pw_below_drewN | apply below_drew1 | refine below_set ?_ GE105.out) | exact HB.out))) : w.heap.size ≤ gb106)); have n5_ := Aside0.mk ((by rw [hg]; exact Nat.ne_of_lt (blk_lt (g := gb105) (o := .cells #[.int .i64 a0_0, .int .i64 a0_1, .int .i64 a0_2, .int .i64 a0_3] 26 (0, 0)) (by (with_reducible repeat (first | refine blk_drewN ?_ _ | refine blk_drew ?_ | refine blk_alloc ?_ _)); exact BK105.out)) : gb105 ≠ gb106)); have n6_ := Aside0.mk ((by rw [hg]; exact Nat.ne_of_gt (blk_lt (g := gb105) (o := .cells #[.int .i64 a0_0, .int .i64 a0_1, .int .i64 a0_2, .int .i64 a0_3] 26 (0, 0)) (by (with_reducible repeat (first | refine blk_drewN ?_ _ | refine blk_drew ?_ | refine blk_alloc ?_ _)); exact BK105.out)) : gb106 ≠ gb105)); clear BK105; clear HB; have BK105 := n0_; have HB := n1_; have BK106 := n2_; have GW106 := n3_; have GE106 := n4_; have NB105_106 := n5_; have NB106_105 := n6_; clear n0_ n1_ n2_ n3_ n4_ n5_ n6_; clear hb hbox hg; have hnb8 := NB105_106.out; have hnc8 := NB106_105.out; have hcz9_0 : w7.cell? ⟨gb105, 0, none⟩ = some (.int .i64 a0_0) := (blk_cell BK105.out 0).trans rfl; have hcz9_1 : w7.cell? ⟨gb105, 1, none⟩ = some (.int .i64 a0_1) := (blk_cell BK105.out 1).trans rfl; have hcz9_2 : w7.cell? ⟨gb105, 2, none⟩ = some (.int .i64 a0_2) := (blk_cell BK105.out 2).trans rfl; have hcz9_3 : w7.cell? ⟨gb105, 3, none⟩ = some (.int .i64 a0_3) := (blk_cell BK105.out 3).trans rfl; have hfz9_0 := blk_frozen BK105.out 0; have hfz9_1 := blk_frozen BK105.out 1; have hfz9_2 := blk_frozen BK105.out 2; have hfz9_3 := blk_frozen BK105.out 3) | (go_at_call 13; (with_reducible refine (spec_PaceGiven.calls k a0_0 a0_1 a0_2 a0_3 a1 t107 t108 t109 t110 _ A4.out).mono ?_); rintro e w10 ⟨rfl, hb⟩; have n0_ := Aside0.mk (blk_below (g := gb105) (o := .cells #[.int .i64 a0_0, .int .i64 a0_1, .int .i64 a0_2, .int .i64 a0_3] 26 (0, 0)) (by (with_reducible repeat (first | refine blk_drewN ?_ _ | refine blk_drew ?_ | refine blk_alloc ?_ _)); exact BK105.out) hb); have n1_ := Aside0.mk (blk_below (g := gb106) (o := .cells #[.int .i64 a2_0, .int .i64 a2_1, .int .i64 a2_2, .int .i64 a2_3] 23 (0, 0)) (by (with_reducible repeat (first | refine blk_drewN ?_ _ | refine blk_drew ?_ | refine blk_alloc ?_ _)); exact BK106.out) hb); have n2_ := Aside0.mk (below_step (by repeat (first | (with_reducible first | exact HB.out | apply below_alloc | apply pw_below_drewN | apply below_drew1 | refine below_set ?_ GE105.out | refine below_set ?_ GE106.out) | exact HB.out)) hb); clear BK105; clear BK106; clear HB; have BK105 := n0_; have BK106 := n1_; have HB := n2_; clear n0_ n1_ n2_; (try clear hb); (try clear hb2); (try clear hk); (try clear hi); have hcz11_0 : w10.cell? ⟨gb105, 0, none⟩ = some (.int .i64 a0_0) := (blk_cell BK105.out 0).trans rfl; have hcz11_1 : w10.cell? ⟨gb105, 1, none⟩ = some (.int .i64 a0_1) := (blk_cell BK105.out 1).trans rfl; have hcz11_2 : w10.cell? ⟨gb105, 2, none⟩ = some (.int .i64 a0_2) := (blk_cell BK105.out 2).trans rfl; have hcz11_3 : w10.cell? ⟨gb105, 3, none⟩ = some (.int .i64 a0_3) := (blk_cell BK105.out 3).trans rfl; have hfz11_0 := blk_frozen BK105.out 0; have hfz11_1 := blk_frozen BK105.out 1; have hfz11_2 := blk_frozen BK105.out 2; have hfz11_3 := blk_frozen BK105.out 3)))
  (try simp only [Act.put, List.setIfInBounds_toArray, List.set_cons_zero, List.set_cons_succ])
  go_cut [30] (fun v30 wc => ∃ (kq : Nat) (x30_4 : Bool), v30 = .bool x30_4 ∧ Aside0 (spec_PaceNext.j0 kq a1 x30_4 t107 t108 t109 t110 a2_0 a2_1 a2_2 a2_3 = some r) ∧ Aside0 (kq ≤ k) ∧ Aside0 (wc.heap[gb105]? = some (.cells #[.int .i64 t107, .int .i64 t108, .int .i64 t109, .int .i64 t110] 26 (0, 0))) ∧ Aside0 (wc.heap[gb106]? = some (.cells #[.int .i64 a2_0, .int .i64 a2_1, .int .i64 a2_2, .int .i64 a2_3] 23 (0, 0))) ∧ Aside0 (Below w.heap.size w wc))
  case first =>
    have H := HC5.out
    clear HC5
    by_cases c12 : a2_2 ≥ 0
    · rw [if_pos c12] at H
      have c12b0 : decide (0 ≤ a2_2) = true := decide_eq_true c12
      clear c12
      (first | rw [c12b0] | (simp only [i64_w, i32_w]; rw [c12b0]) | skip)
      by_cases c13 : a2_1 > 0
      · rw [if_pos c13] at H
        have c13b0 : decide (0 < a2_1) = true := decide_eq_true c13
        clear c13
        have H' := Aside0.mk H
        clear H
        have hnb14 := NB106_105.out
        have hnc14 := NB105_106.out
        have hcz15_0 : w10.cell? ⟨gb106, 0, none⟩ = some (.int .i64 a2_0) := (blk_cell BK106.out 0).trans rfl
        have hcz15_1 : w10.cell? ⟨gb106, 1, none⟩ = some (.int .i64 a2_1) := (blk_cell BK106.out 1).trans rfl
        have hcz15_2 : w10.cell? ⟨gb106, 2, none⟩ = some (.int .i64 a2_2) := (blk_cell BK106.out 2).trans rfl
        have hcz15_3 : w10.cell? ⟨gb106, 3, none⟩ = some (.int .i64 a2_3) := (blk_cell BK106.out 3).trans rfl
        have hfz15_0 := blk_frozen BK106.out 0
        have hfz15_1 := blk_frozen BK106.out 1
        have hfz15_2 := blk_frozen BK106.out 2
        have hfz15_3 := blk_frozen BK106.out 3
        go_wp2
        repeat (go_quiet (fail); try go_wp2)
        go_meet
        case rel => exact ⟨_, (true), (by first | rfl | (simp; done) | (simp [*]; done)), H', ⟨by first | omega | exact Nat.le_refl _⟩, ⟨by (with_reducible repeat (first | refine blk_drewN ?_ _ | refine blk_drew ?_ | refine blk_alloc ?_ _)); refine blk_put (cs := #[.int .i64 t107, .int .i64 t108, .int .i64 t109, .int .i64 a0_3]) ?_ 3 _ rfl; (with_reducible repeat (first | refine blk_drewN ?_ _ | refine blk_drew ?_ | refine blk_alloc ?_ _)); refine blk_put (cs := #[.int .i64 t107, .int .i64 t108, .int .i64 a0_2, .int .i64 a0_3]) ?_ 2 _ rfl; (with_reducible repeat (first | refine blk_drewN ?_ _ | refine blk_drew ?_ | refine blk_alloc ?_ _)); refine blk_put (cs := #[.int .i64 t107, .int .i64 a0_1, .int .i64 a0_2, .int .i64 a0_3]) ?_ 1 _ rfl; (with_reducible repeat (first | refine blk_drewN ?_ _ | refine blk_drew ?_ | refine blk_alloc ?_ _)); refine blk_put (cs := #[.int .i64 a0_0, .int .i64 a0_1, .int .i64 a0_2, .int .i64 a0_3]) ?_ 0 _ rfl; (with_reducible repeat (first | refine blk_drewN ?_ _ | refine blk_drew ?_ | refine blk_alloc ?_ _)); exact BK105.out⟩, ⟨by (with_reducible repeat (first | refine blk_drewN ?_ _ | refine blk_drew ?_ | refine blk_alloc ?_ _)); refine blk_far ?_ NB106_105.out _; (with_reducible repeat (first | refine blk_drewN ?_ _ | refine blk_drew ?_ | refine blk_alloc ?_ _)); refine blk_far ?_ NB106_105.out _; (with_reducible repeat (first | refine blk_drewN ?_ _ | refine blk_drew ?_ | refine blk_alloc ?_ _)); refine blk_far ?_ NB106_105.out _; (with_reducible repeat (first | refine blk_drewN ?_ _ | refine blk_drew ?_ | refine blk_alloc ?_ _)); refine blk_far ?_ NB106_105.out _; (with_reducible repeat (first | refine blk_drewN ?_ _ | refine blk_drew ?_ | refine blk_alloc ?_ _)); exact BK106.out⟩, ⟨by repeat (first | (with_reducible first | exact HB.out | apply below_alloc | apply pw_below_drewN | apply below_drew1 | refine below_set ?_ GE105.out | refine below_set ?_ GE106.out) | exact HB.out)⟩⟩
      · rw [if_neg c13] at H
        have c13b0 : decide (0 < a2_1) = false := decide_eq_false c13
        clear c13
        by_cases c16 : a2_2 > 0
        · rw [if_pos c16] at H
          have c16b0 : decide (0 < a2_2) = true := decide_eq_true c16
          clear c16
          have H' := Aside0.mk H
          clear H
          have hnb17 := NB106_105.out
          have hnc17 := NB105_106.out
          have hcz18_0 : w10.cell? ⟨gb106, 0, none⟩ = some (.int .i64 a2_0) := (blk_cell BK106.out 0).trans rfl
          have hcz18_1 : w10.cell? ⟨gb106, 1, none⟩ = some (.int .i64 a2_1) := (blk_cell BK106.out 1).trans rfl
          have hcz18_2 : w10.cell? ⟨gb106, 2, none⟩ = some (.int .i64 a2_2) := (blk_cell BK106.out 2).trans rfl
          have hcz18_3 : w10.cell? ⟨gb106, 3, none⟩ = some (.int .i64 a2_3) := (blk_cell BK106.out 3).trans rfl
          have hfz18_0 := blk_frozen BK106.out 0
          have hfz18_1 := blk_frozen BK106.out 1
          have hfz18_2 := blk_frozen BK106.out 2
          have hfz18_3 := blk_frozen BK106.out 3
          go_wp2
          repeat (go_quiet (fail); try go_wp2)
          go_meet
          case rel => exact ⟨_, (true), (by first | rfl | (simp; done) | (simp [*]; done)), H', ⟨by first | omega | exact Nat.le_refl _⟩, ⟨by (with_reducible repeat (first | refine blk_drewN ?_ _ | refine blk_drew ?_ | refine blk_alloc ?_ _)); refine blk_put (cs := #[.int .i64 t107, .int .i64 t108, .int .i64 t109, .int .i64 a0_3]) ?_ 3 _ rfl; (with_reducible repeat (first | refine blk_drewN ?_ _ | refine blk_drew ?_ | refine blk_alloc ?_ _)); refine blk_put (cs := #[.int .i64 t107, .int .i64 t108, .int .i64 a0_2, .int .i64 a0_3]) ?_ 2 _ rfl; (with_reducible repeat (first | refine blk_drewN ?_ _ | refine blk_drew ?_ | refine blk_alloc ?_ _)); refine blk_put (cs := #[.int .i64 t107, .int .i64 a0_1, .int .i64 a0_2, .int .i64 a0_3]) ?_ 1 _ rfl; (with_reducible repeat (first | refine blk_drewN ?_ _ | refine blk_drew ?_ | refine blk_alloc ?_ _)); refine blk_put (cs := #[.int .i64 a0_0, .int .i64 a0_1, .int .i64 a0_2, .int .i64 a0_3]) ?_ 0 _ rfl; (with_reducible repeat (first | refine blk_drewN ?_ _ | refine blk_drew ?_ | refine blk_alloc ?_ _)); exact BK105.out⟩, ⟨by (with_reducible repeat (first | refine blk_drewN ?_ _ | refine blk_drew ?_ | refine blk_alloc ?_ _)); refine blk_far ?_ NB106_105.out _; (with_reducible repeat (first | refine blk_drewN ?_ _ | refine blk_drew ?_ | refine blk_alloc ?_ _)); refine blk_far ?_ NB106_105.out _; (with_reducible repeat (first | refine blk_drewN ?_ _ | refine blk_drew ?_ | refine blk_alloc ?_ _)); refine blk_far ?_ NB106_105.out _; (with_reducible repeat (first | refine blk_drewN ?_ _ | refine blk_drew ?_ | refine blk_alloc ?_ _)); refine blk_far ?_ NB106_105.out _; (with_reducible repeat (first | refine blk_drewN ?_ _ | refine blk_drew ?_ | refine blk_alloc ?_ _)); exact BK106.out⟩, ⟨by repeat (first | (with_reducible first | exact HB.out | apply below_alloc | apply pw_below_drewN | apply below_drew1 | refine below_set ?_ GE105.out | refine below_set ?_ GE106.out) | exact HB.out)⟩⟩
        · rw [if_neg c16] at H
          have c16b0 : decide (0 < a2_2) = false := decide_eq_false c16
          clear c16
          have H' := Aside0.mk H
          clear H
          have hnb19 := NB106_105.out
          have hnc19 := NB105_106.out
          have hcz20_0 : w10.cell? ⟨gb106, 0, none⟩ = some (.int .i64 a2_0) := (blk_cell BK106.out 0).trans rfl
          have hcz20_1 : w10.cell? ⟨gb106, 1, none⟩ = some (.int .i64 a2_1) := (blk_cell BK106.out 1).trans rfl
          have hcz20_2 : w10.cell? ⟨gb106, 2, none⟩ = some (.int .i64 a2_2) := (blk_cell BK106.out 2).trans rfl
          have hcz20_3 : w10.cell? ⟨gb106, 3, none⟩ = some (.int .i64 a2_3) := (blk_cell BK106.out 3).trans rfl
          have hfz20_0 := blk_frozen BK106.out 0
          have hfz20_1 := blk_frozen BK106.out 1
          have hfz20_2 := blk_frozen BK106.out 2
          have hfz20_3 := blk_frozen BK106.out 3
          go_wp2
          repeat (go_quiet (fail); try go_wp2)
          go_meet
          case rel => exact ⟨_, (decide (a2_3 > 0)), (by first | rfl | (simp; done) | (simp [*]; done)), H', ⟨by first | omega | exact Nat.le_refl _⟩, ⟨by (with_reducible repeat (first | refine blk_drewN ?_ _ | refine blk_drew ?_ | refine blk_alloc ?_ _)); refine blk_put (cs := #[.int .i64 t107, .int .i64 t108, .int .i64 t109, .int .i64 a0_3]) ?_ 3 _ rfl; (with_reducible repeat (first | refine blk_drewN ?_ _ | refine blk_drew ?_ | refine blk_alloc ?_ _)); refine blk_put (cs := #[.int .i64 t107, .int .i64 t108, .int .i64 a0_2, .int .i64 a0_3]) ?_ 2 _ rfl; (with_reducible repeat (first | refine blk_drewN ?_ _ | refine blk_drew ?_ | refine blk_alloc ?_ _)); refine blk_put (cs := #[.int .i64 t107, .int .i64 a0_1, .int .i64 a0_2, .int .i64 a0_3]) ?_ 1 _ rfl; (with_reducible repeat (first | refine blk_drewN ?_ _ | refine blk_drew ?_ | refine blk_alloc ?_ _)); refine blk_put (cs := #[.int .i64 a0_0, .int .i64 a0_1, .int .i64 a0_2, .int .i64 a0_3]) ?_ 0 _ rfl; (with_reducible repeat (first | refine blk_drewN ?_ _ | refine blk_drew ?_ | refine blk_alloc ?_ _)); exact BK105.out⟩, ⟨by (with_reducible repeat (first | refine blk_drewN ?_ _ | refine blk_drew ?_ | refine blk_alloc ?_ _)); refine blk_far ?_ NB106_105.out _; (with_reducible repeat (first | refine blk_drewN ?_ _ | refine blk_drew ?_ | refine blk_alloc ?_ _)); refine blk_far ?_ NB106_105.out _; (with_reducible repeat (first | refine blk_drewN ?_ _ | refine blk_drew ?_ | refine blk_alloc ?_ _)); refine blk_far ?_ NB106_105.out _; (with_reducible repeat (first | refine blk_drewN ?_ _ | refine blk_drew ?_ | refine blk_alloc ?_ _)); refine blk_far ?_ NB106_105.out _; (with_reducible repeat (first | refine blk_drewN ?_ _ | refine blk_drew ?_ | refine blk_alloc ?_ _)); exact BK106.out⟩, ⟨by repeat (first | (with_reducible first | exact HB.out | apply below_alloc | apply pw_below_drewN | apply below_drew1 | refine below_set ?_ GE105.out | refine below_set ?_ GE106.out) | exact HB.out)⟩⟩
    · rw [if_neg c12] at H
      have c12b0 : decide (0 ≤ a2_2) = false := decide_eq_false c12
      clear c12
      (first | rw [c12b0] | (simp only [i64_w, i32_w]; rw [c12b0]) | skip)
      have H' := Aside0.mk H
      clear H
      have hnb21 := NB106_105.out
      have hnc21 := NB105_106.out
      have hcz22_0 : w10.cell? ⟨gb106, 0, none⟩ = some (.int .i64 a2_0) := (blk_cell BK106.out 0).trans rfl
      have hcz22_1 : w10.cell? ⟨gb106, 1, none⟩ = some (.int .i64 a2_1) := (blk_cell BK106.out 1).trans rfl
      have hcz22_2 : w10.cell? ⟨gb106, 2, none⟩ = some (.int .i64 a2_2) := (blk_cell BK106.out 2).trans rfl
      have hcz22_3 : w10.cell? ⟨gb106, 3, none⟩ = some (.int .i64 a2_3) := (blk_cell BK106.out 3).trans rfl
      have hfz22_0 := blk_frozen BK106.out 0
      have hfz22_1 := blk_frozen BK106.out 1
      have hfz22_2 := blk_frozen BK106.out 2
      have hfz22_3 := blk_frozen BK106.out 3
      go_wp2
      repeat (go_quiet (fail); try go_wp2)
      go_meet
      case rel => exact ⟨_, (false), (by first | rfl | (simp; done) | (simp [*]; done)), H', ⟨by first | omega | exact Nat.le_refl _⟩, ⟨by (with_reducible repeat (first | refine blk_drewN ?_ _ | refine blk_drew ?_ | refine blk_alloc ?_ _)); refine blk_put (cs := #[.int .i64 t107, .int .i64 t108, .int .i64 t109, .int .i64 a0_3]) ?_ 3 _ rfl; (with_reducible repeat (first | refine blk_drewN ?_ _ | refine blk_drew ?_ | refine blk_alloc ?_ _)); refine blk_put (cs := #[.int .i64 t107, .int .i64 t108, .int .i64 a0_2, .int .i64 a0_3]) ?_ 2 _ rfl; (with_reducible repeat (first | refine blk_drewN ?_ _ | refine blk_drew ?_ | refine blk_alloc ?_ _)); refine blk_put (cs := #[.int .i64 t107, .int .i64 a0_1, .int .i64 a0_2, .int .i64 a0_3]) ?_ 1 _ rfl; (with_reducible repeat (first | refine blk_drewN ?_ _ | refine blk_drew ?_ | refine blk_alloc ?_ _)); refine blk_put (cs := #[.int .i64 a0_0, .int .i64 a0_1, .int .i64 a0_2, .int .i64 a0_3]) ?_ 0 _ rfl; (with_reducible repeat (first | refine blk_drewN ?_ _ | refine blk_drew ?_ | refine blk_alloc ?_ _)); exact BK105.out⟩, ⟨by (with_reducible repeat (first | refine blk_drewN ?_ _ | refine blk_drew ?_ | refine blk_alloc ?_ _)); refine blk_far ?_ NB106_105.out _; (with_reducible repeat (first | refine blk_drewN ?_ _ | refine blk_drew ?_ | refine blk_alloc ?_ _)); refine blk_far ?_ NB106_105.out _; (with_reducible repeat (first | refine blk_drewN ?_ _ | refine blk_drew ?_ | refine blk_alloc ?_ _)); refine blk_far ?_ NB106_105.out _; (with_reducible repeat (first | refine blk_drewN ?_ _ | refine blk_drew ?_ | refine blk_alloc ?_ _)); refine blk_far ?_ NB106_105.out _; (with_reducible repeat (first | refine blk_drewN ?_ _ | refine blk_drew ?_ | refine blk_alloc ?_ _)); exact BK106.out⟩, ⟨by repeat (first | (with_reducible first | exact HB.out | apply below_alloc | apply pw_below_drewN | apply below_drew1 | refine below_set ?_ GE105.out | refine below_set ?_ GE106.out) | exact HB.out)⟩⟩
  case rest =>
    clear HC5
    try clear c1
    try clear c2
    try clear p2
    try clear c8
    try clear c11
    try clear c12
    try clear c12b0
    try clear c13
    try clear c13b0
    try clear c14
    try clear c16
    try clear c16b0
    try clear c17
    try clear c19
    try clear c21
    try clear hcz11_0
    try clear hcz11_1
    try clear hcz11_2
    try clear hcz11_3
    try clear hcz15_0
    try clear hcz15_1
    try clear hcz15_2
    try clear hcz15_3
    try clear hcz18_0
    try clear hcz18_1
    try clear hcz18_2
    try clear hcz18_3
    try clear hcz20_0
    try clear hcz20_1
    try clear hcz20_2
    try clear hcz20_3
    try clear hcz22_0
    try clear hcz22_1
    try clear hcz22_2
    try clear hcz22_3
    try clear hcz9_0
    try clear hcz9_1
    try clear hcz9_2
    try clear hcz9_3
    try clear hfz11_0
    try clear hfz11_1
    try clear hfz11_2
    try clear hfz11_3
    try clear hfz15_0
    try clear hfz15_1
    try clear hfz15_2
    try clear hfz15_3
    try clear hfz18_0
    try clear hfz18_1
    try clear hfz18_2
    try clear hfz18_3
    try clear hfz20_0
    try clear hfz20_1
    try clear hfz20_2
    try clear hfz20_3
    try clear hfz22_0
    try clear hfz22_1
    try clear hfz22_2
    try clear hfz22_3
    try clear hfz9_0
    try clear hfz9_1
    try clear hfz9_2
    try clear hfz9_3
    obtain ⟨kq, x30_4, rfl, HA, HJ4, BK105, BK106, HB⟩ := hcut
    cases kq with
    | zero => exact absurd HA.out (by simp [spec_PaceNext.j0])
    | succ kj4 =>
      have H := HA.out
      clear HA
      simp only [spec_PaceNext.j0] at H
      by_cases c23 : x30_4 = true
      · subst c23
        have H1 : (some (mx a2_2 t107)) = some r := by rw [if_pos rfl] at H; exact H
        clear H
        have H := H1
        clear H1
        obtain ⟨ji24, hji24⟩ : ∃ j_ : Int, (mx a2_2 t107) = j_ := ⟨_, rfl⟩
        replace H : (some ji24) = some r := by first | (rw [hji24] at H; exact H) | (simp only [hji24] at H ⊢; exact H)
        have hji24_ : (if a2_2 < t107 then t107 else a2_2) = ji24 := hji24
        obtain rfl := Option.some.inj H
        have hnb25 := NB106_105.out
        have hnc25 := NB105_106.out
        have hcz26_0 : wc.cell? ⟨gb106, 0, none⟩ = some (.int .i64 a2_0) := (blk_cell BK106.out 0).trans rfl
        have hcz26_1 : wc.cell? ⟨gb106, 1, none⟩ = some (.int .i64 a2_1) := (blk_cell BK106.out 1).trans rfl
        have hcz26_2 : wc.cell? ⟨gb106, 2, none⟩ = some (.int .i64 a2_2) := (blk_cell BK106.out 2).trans rfl
        have hcz26_3 : wc.cell? ⟨gb106, 3, none⟩ = some (.int .i64 a2_3) := (blk_cell BK106.out 3).trans rfl
        have hfz26_0 := blk_frozen BK106.out 0
        have hfz26_1 := blk_frozen BK106.out 1
        have hfz26_2 := blk_frozen BK106.out 2
        have hfz26_3 := blk_frozen BK106.out 3
        have hcz27_0 : wc.cell? ⟨gb105, 0, none⟩ = some (.int .i64 t107) := (blk_cell BK105.out 0).trans rfl
        have hcz27_1 : wc.cell? ⟨gb105, 1, none⟩ = some (.int .i64 t108) := (blk_cell BK105.out 1).trans rfl
        have hcz27_2 : wc.cell? ⟨gb105, 2, none⟩ = some (.int .i64 t109) := (blk_cell BK105.out 2).trans rfl
        have hcz27_3 : wc.cell? ⟨gb105, 3, none⟩ = some (.int .i64 t110) := (blk_cell BK105.out 3).trans rfl
        have hfz27_0 := blk_frozen BK105.out 0
        have hfz27_1 := blk_frozen BK105.out 1
        have hfz27_2 := blk_frozen BK105.out 2
        have hfz27_3 := blk_frozen BK105.out 3
        go_wp2
        repeat (go_quiet (fail); try go_wp2)
        go_ret
        exact ⟨by first | rfl | (simp [errW_none, errW_some] <;> rfl) | (simp only [← hji24]; first | rfl | (simp [errW_none, errW_some] <;> rfl)) | (simp [*, errW_none, errW_some] <;> rfl), by repeat (first | (with_reducible first | exact HB.out | apply below_alloc | apply pw_below_drewN | apply below_drew1 | refine below_set ?_ GE105.out | refine below_set ?_ GE106.out) | exact HB.out)⟩
      · replace c23 := Bool.eq_false_iff.mpr c23
        subst c23
        have H1 : (if a2_1 > 0 then ((spec_power.f kj4 t110).bind fun t111 => (if t110 = 0 then (some t108) else (if a1 = true then (spec_PaceNext.j1 kj4 t111 (a2_0 == 0) t107 t108 t109 t110 a2_0 a2_1 a2_2 a2_3) else (spec_PaceNext.j1 kj4 t111 false t107 t108 t109 t110 a2_0 a2_1 a2_2 a2_3)))) else ((spec_power.f kj4 t109).bind fun t112 => (if t112 = 0 then (none) else (if a1 = true then (if (wrap64 (Int.tdiv (wrap64 (a2_0 * (wrap64 (t112 - 1)))) t112)) < t107 then (some 0) else (some (mx (wrap64 (Int.tdiv (wrap64 (a2_0 * (wrap64 (t112 - 1)))) t112)) t107))) else (some (mx (wrap64 (Int.tdiv (wrap64 (a2_0 * (wrap64 (t112 - 1)))) t112)) t107)))))) = some r := by rw [if_neg (show ¬ (false = true) by decide)] at H; exact H
        clear H
        have H := H1
        clear H1
        by_cases c28 : a2_1 > 0
        · rw [if_pos c28] at H
          have c28b0 : decide (0 < a2_1) = true := decide_eq_true c28
          clear c28
          replace H := Option.bind_eq_some_iff.mp H
          obtain ⟨t111, A290, H⟩ := H
          replace H : (if t110 = 0 then (some t108) else (if a1 = true then (spec_PaceNext.j1 kj4 t111 (a2_0 == 0) t107 t108 t109 t110 a2_0 a2_1 a2_2 a2_3) else (spec_PaceNext.j1 kj4 t111 false t107 t108 t109 t110 a2_0 a2_1 a2_2 a2_3))) = some r := H
          have A29 := Aside0.mk A290
          clear A290
          by_cases c30 : t110 = 0
          · rw [if_pos c30] at H
            have c30b0 : (t110 == 0) = true := beq_iff_eq.mpr c30
            have c30b1 : (t110 != 0) = false := bne_eq_false_iff_eq.mpr c30
            clear c30
            obtain rfl := Option.some.inj H
            have hnb31 := NB106_105.out
            have hnc31 := NB105_106.out
            have hcz32_0 : wc.cell? ⟨gb106, 0, none⟩ = some (.int .i64 a2_0) := (blk_cell BK106.out 0).trans rfl
            have hcz32_1 : wc.cell? ⟨gb106, 1, none⟩ = some (.int .i64 a2_1) := (blk_cell BK106.out 1).trans rfl
            have hcz32_2 : wc.cell? ⟨gb106, 2, none⟩ = some (.int .i64 a2_2) := (blk_cell BK106.out 2).trans rfl
            have hcz32_3 : wc.cell? ⟨gb106, 3, none⟩ = some (.int .i64 a2_3) := (blk_cell BK106.out 3).trans rfl
            have hfz32_0 := blk_frozen BK106.out 0
            have hfz32_1 := blk_frozen BK106.out 1
            have hfz32_2 := blk_frozen BK106.out 2
            have hfz32_3 := blk_frozen BK106.out 3
            have hcz33_0 : wc.cell? ⟨gb105, 0, none⟩ = some (.int .i64 t107) := (blk_cell BK105.out 0).trans rfl
            have hcz33_1 : wc.cell? ⟨gb105, 1, none⟩ = some (.int .i64 t108) := (blk_cell BK105.out 1).trans rfl
            have hcz33_2 : wc.cell? ⟨gb105, 2, none⟩ = some (.int .i64 t109) := (blk_cell BK105.out 2).trans rfl
            have hcz33_3 : wc.cell? ⟨gb105, 3, none⟩ = some (.int .i64 t110) := (blk_cell BK105.out 3).trans rfl
            have hfz33_0 := blk_frozen BK105.out 0
            have hfz33_1 := blk_frozen BK105.out 1
            have hfz33_2 := blk_frozen BK105.out 2
            have hfz33_3 := blk_frozen BK105.out 3
            go_wp2_with (first | (go_at_call 18; (with_reducible refine (spec_power.calls kj4 t110 t111 _ A29.out).mono ?_); rintro e w' ⟨rfl, ⟨nd, rfl⟩⟩; (try first | exact ⟨rfl, _, World.drewN_drewN _ _ _⟩ | exact ⟨rfl, _, Eq.trans (World.drewN_drewN _ _ _) (congrArg (World.drewN _) (Nat.add_assoc _ _ _))⟩)))
            repeat (go_quiet (first | (go_at_call 18; (with_reducible refine (spec_power.calls kj4 t110 t111 _ A29.out).mono ?_); rintro e w' ⟨rfl, ⟨nd, rfl⟩⟩; (try first | exact ⟨rfl, _, World.drewN_drewN _ _ _⟩ | exact ⟨rfl, _, Eq.trans (World.drewN_drewN _ _ _) (congrArg (World.drewN _) (Nat.add_assoc _ _ _))⟩))); try go_wp2_with (first | (go_at_call 18; (with_reducible refine (spec_power.calls kj4 t110 t111 _ A29.out).mono ?_); rintro e w' ⟨rfl, ⟨nd, rfl⟩⟩; (try first | exact ⟨rfl, _, World.drewN_drewN _ _ _⟩ | exact ⟨rfl, _, Eq.trans (World.drewN_drewN _ _ _) (congrArg (World.drewN _) (Nat.add_assoc _ _ _))⟩))))
            go_ret
            exact ⟨by first | rfl | (simp [errW_none, errW_some] <;> rfl) | (simp [*, errW_none, errW_some] <;> rfl), by repeat (first | (with_reducible first | exact HB.out | apply below_alloc | apply pw_below_drewN | apply below_drew1 | refine below_set ?_ GE105.out | refine below_set ?_ GE106.out) | exact HB.out)⟩
          · rw [if_neg c30] at H
            have c30b0 : (t110 == 0) = false := beq_eq_false_iff_ne.mpr c30
            have c30b1 : (t110 != 0) = true := bne_iff_ne.mpr c30
            have HC34 := Aside0.mk H
            clear H
            have hnb35 := NB106_105.out
            have hnc35 := NB105_106.out
            have hcz36_0 : wc.cell? ⟨gb106, 0, none⟩ = some (.int .i64 a2_0) := (blk_cell BK106.out 0).trans rfl
            have hcz36_1 : wc.cell? ⟨gb106, 1, none⟩ = some (.int .i64 a2_1) := (blk_cell BK106.out 1).trans rfl
            have hcz36_2 : wc.cell? ⟨gb106, 2, none⟩ = some (.int .i64 a2_2) := (blk_cell BK106.out 2).trans rfl
            have hcz36_3 : wc.cell? ⟨gb106, 3, none⟩ = some (.int .i64 a2_3) := (blk_cell BK106.out 3).trans rfl
            have hfz36_0 := blk_frozen BK106.out 0
            have hfz36_1 := blk_frozen BK106.out 1
            have hfz36_2 := blk_frozen BK106.out 2
            have hfz36_3 := blk_frozen BK106.out 3
            have hcz37_0 : wc.cell? ⟨gb105, 0, none⟩ = some (.int .i64 t107) := (blk_cell BK105.out 0).trans rfl
            have hcz37_1 : wc.cell? ⟨gb105, 1, none⟩ = some (.int .i64 t108) := (blk_cell BK105.out 1).trans rfl
            have hcz37_2 : wc.cell? ⟨gb105, 2, none⟩ = some (.int .i64 t109) := (blk_cell BK105.out 2).trans rfl
            have hcz37_3 : wc.cell? ⟨gb105, 3, none⟩ = some (.int .i64 t110) := (blk_cell BK105.out 3).trans rfl
            have hfz37_0 := blk_frozen BK105.out 0
            have hfz37_1 := blk_frozen BK105.out 1
            have hfz37_2 := blk_frozen BK105.out 2
            have hfz37_3 := blk_frozen BK105.out 3
            go_upto_region 8 with (first | (go_at_call 18; (with_reducible refine (spec_power.calls kj4 t110 t111 _ A29.out).mono ?_); rintro e w' ⟨rfl, ⟨nd, rfl⟩⟩; (try first | exact ⟨rfl, _, World.drewN_drewN _ _ _⟩ | exact ⟨rfl, _, Eq.trans (World.drewN_drewN _ _ _) (congrArg (World.drewN _) (Nat.add_assoc _ _ _))⟩)))
            repeat (go_quiet (first | (go_at_call 18; (with_reducible refine (spec_power.calls kj4 t110 t111 _ A29.out).mono ?_); rintro e w' ⟨rfl, ⟨nd, rfl⟩⟩; (try first | exact ⟨rfl, _, World.drewN_drewN _ _ _⟩ | exact ⟨rfl, _, Eq.trans (World.drewN_drewN _ _ _) (congrArg (World.drewN _) (Nat.add_assoc _ _ _))⟩))); go_upto_region 8 with (first | (go_at_call 18; (with_reducible refine (spec_power.calls kj4 t110 t111 _ A29.out).mono ?_); rintro e w' ⟨rfl, ⟨nd, rfl⟩⟩; (try first | exact ⟨rfl, _, World.drewN_drewN _ _ _⟩ | exact ⟨rfl, _, Eq.trans (World.drewN_drewN _ _ _) (congrArg (World.drewN _) (Nat.add_assoc _ _ _))⟩))))
            (try simp only [Act.put, List.setIfInBounds_toArray, List.set_cons_zero, List.set_cons_succ])
            go_cut [48] (fun v48 wc => ∃ (kq : Nat) (x48_33 : Bool), v48 = .bool x48_33 ∧ Aside0 (spec_PaceNext.j1 kq t111 x48_33 t107 t108 t109 t110 a2_0 a2_1 a2_2 a2_3 = some r) ∧ Aside0 (kq ≤ kj4) ∧ Aside0 (wc.heap[gb105]? = some (.cells #[.int .i64 t107, .int .i64 t108, .int .i64 t109, .int .i64 t110] 26 (0, 0))) ∧ Aside0 (wc.heap[gb106]? = some (.cells #[.int .i64 a2_0, .int .i64 a2_1, .int .i64 a2_2, .int .i64 a2_3] 23 (0, 0))) ∧ Aside0 (Below w.heap.size w wc))
            case first =>
              have H := HC34.out
              clear HC34
              by_cases c38 : a1 = true
              · subst c38
                have H1 : (spec_PaceNext.j1 kj4 t111 (a2_0 == 0) t107 t108 t109 t110 a2_0 a2_1 a2_2 a2_3) = some r := by rw [if_pos rfl] at H; exact H
                clear H
                have H := H1
                clear H1
                have H' := Aside0.mk H
                clear H
                have hnb39 := NB106_105.out
                have hnc39 := NB105_106.out
                have hcz40_0 : wc.cell? ⟨gb106, 0, none⟩ = some (.int .i64 a2_0) := (blk_cell BK106.out 0).trans rfl
                have hcz40_1 : wc.cell? ⟨gb106, 1, none⟩ = some (.int .i64 a2_1) := (blk_cell BK106.out 1).trans rfl
                have hcz40_2 : wc.cell? ⟨gb106, 2, none⟩ = some (.int .i64 a2_2) := (blk_cell BK106.out 2).trans rfl
                have hcz40_3 : wc.cell? ⟨gb106, 3, none⟩ = some (.int .i64 a2_3) := (blk_cell BK106.out 3).trans rfl
                have hfz40_0 := blk_frozen BK106.out 0
                have hfz40_1 := blk_frozen BK106.out 1
                have hfz40_2 := blk_frozen BK106.out 2
                have hfz40_3 := blk_frozen BK106.out 3
                go_wp2
                repeat (go_quiet (fail); try go_wp2)
                go_meet
                case rel => exact ⟨_, ((a2_0 == 0)), (by first | rfl | (simp; done) | (simp [*]; done)), H', ⟨by have := HJ4.out; first | omega | exact Nat.le_refl _⟩, ⟨by (with_reducible repeat (first | refine blk_drewN ?_ _ | refine blk_drew ?_ | refine blk_alloc ?_ _)); exact BK105.out⟩, ⟨by (with_reducible repeat (first | refine blk_drewN ?_ _ | refine blk_drew ?_ | refine blk_alloc ?_ _)); exact BK106.out⟩, ⟨by repeat (first | (with_reducible first | exact HB.out | apply below_alloc | apply pw_below_drewN | apply below_drew1 | refine below_set ?_ GE105.out | refine below_set ?_ GE106.out) | exact HB.out)⟩⟩
              · replace c38 := Bool.eq_false_iff.mpr c38
                subst c38
                have H1 : (spec_PaceNext.j1 kj4 t111 false t107 t108 t109 t110 a2_0 a2_1 a2_2 a2_3) = some r := by rw [if_neg (show ¬ (false = true) by decide)] at H; exact H
                clear H
                have H := H1
                clear H1
                have H' := Aside0.mk H
                clear H
                go_wp2
                repeat (go_quiet (fail); try go_wp2)
                go_meet
                case rel => exact ⟨_, (false), (by first | rfl | (simp; done) | (simp [*]; done)), H', ⟨by have := HJ4.out; first | omega | exact Nat.le_refl _⟩, ⟨by (with_reducible repeat (first | refine blk_drewN ?_ _ | refine blk_drew ?_ | refine blk_alloc ?_ _)); exact BK105.out⟩, ⟨by (with_reducible repeat (first | refine blk_drewN ?_ _ | refine blk_drew ?_ | refine blk_alloc ?_ _)); exact BK106.out⟩, ⟨by repeat (first | (with_reducible first | exact HB.out | apply below_alloc | apply pw_below_drewN | apply below_drew1 | refine below_set ?_ GE105.out | refine below_set ?_ GE106.out) | exact HB.out)⟩⟩
            case rest =>
              clear HC34
              try clear c1
              try clear c2
              try clear p2
              try clear c3
              try clear p6
              try clear c8
              try clear c11
              try clear c12
              try clear c12b0
              try clear c13
              try clear c13b0
              try clear c14
              try clear c16
              try clear c16b0
              try clear c17
              try clear c19
              try clear c21
              try clear c23
              try clear c25
              try clear c28
              try clear c28b0
              try clear c30
              try clear c30b0
              try clear c30b1
              try clear c31
              try clear c35
              try clear c38
              try clear c39
              try clear hcz11_0
              try clear hcz11_1
              try clear hcz11_2
              try clear hcz11_3
              try clear hcz15_0
              try clear hcz15_1
              try clear hcz15_2
              try clear hcz15_3
              try clear hcz18_0
              try clear hcz18_1
              try clear hcz18_2
              try clear hcz18_3
              try clear hcz20_0
              try clear hcz20_1
              try clear hcz20_2
              try clear hcz20_3
              try clear hcz22_0
              try clear hcz22_1
              try clear hcz22_2
              try clear hcz22_3
              try clear hcz26_0
              try clear hcz26_1
              try clear hcz26_2
              try clear hcz26_3
              try clear hcz27_0
              try clear hcz27_1
              try clear hcz27_2
              try clear hcz27_3
              try clear hcz32_0
              try clear hcz32_1
              try clear hcz32_2
              try clear hcz32_3
              try clear hcz33_0
              try clear hcz33_1
              try clear hcz33_2
              try clear hcz33_3
              try clear hcz36_0
              try clear hcz36_1
              try clear hcz36_2
              try clear hcz36_3
              try clear hcz37_0
              try clear hcz37_1
              try clear hcz37_2
              try clear hcz37_3
              try clear hcz40_0
              try clear hcz40_1
              try clear hcz40_2
              try clear hcz40_3
              try clear hcz9_0
              try clear hcz9_1
              try clear hcz9_2
              try clear hcz9_3
              try clear hfz11_0
              try clear hfz11_1
              try clear hfz11_2
              try clear hfz11_3
              try clear hfz15_0
              try clear hfz15_1
              try clear hfz15_2
              try clear hfz15_3
              try clear hfz18_0
              try clear hfz18_1
              try clear hfz18_2
              try clear hfz18_3
              try clear hfz20_0
              try clear hfz20_1
              try clear hfz20_2
              try clear hfz20_3
              try clear hfz22_0
              try clear hfz22_1
              try clear hfz22_2
              try clear hfz22_3
              try clear hfz26_0
              try clear hfz26_1
              try clear hfz26_2
              try clear hfz26_3
              try clear hfz27_0
              try clear hfz27_1
              try clear hfz27_2
              try clear hfz27_3
              try clear hfz32_0
              try clear hfz32_1
              try clear hfz32_2
              try clear hfz32_3
              try clear hfz33_0
              try clear hfz33_1
              try clear hfz33_2
              try clear hfz33_3
              try clear hfz36_0
              try clear hfz36_1
              try clear hfz36_2
              try clear hfz36_3
              try clear hfz37_0
              try clear hfz37_1
              try clear hfz37_2
              try clear hfz37_3
              try clear hfz40_0
              try clear hfz40_1
              try clear hfz40_2
              try clear hfz40_3
              try clear hfz9_0
              try clear hfz9_1
              try clear hfz9_2
              try clear hfz9_3
              try clear p2
              obtain ⟨kq, x48_33, rfl, HA, HJ33, BK105, BK106, HB⟩ := hcut
              cases kq with
              | zero => exact absurd HA.out (by simp [spec_PaceNext.j1])
              | succ kj33 =>
                have H := HA.out
                clear HA
                simp only [spec_PaceNext.j1] at H
                by_cases c41 : x48_33 = true
                · subst c41
                  have H1 : (some t107) = some r := by rw [if_pos rfl] at H; exact H
                  clear H
                  have H := H1
                  clear H1
                  obtain rfl := Option.some.inj H
                  have hnb42 := NB105_106.out
                  have hnc42 := NB106_105.out
                  have hcz43_0 : wc.cell? ⟨gb105, 0, none⟩ = some (.int .i64 t107) := (blk_cell BK105.out 0).trans rfl
                  have hcz43_1 : wc.cell? ⟨gb105, 1, none⟩ = some (.int .i64 t108) := (blk_cell BK105.out 1).trans rfl
                  have hcz43_2 : wc.cell? ⟨gb105, 2, none⟩ = some (.int .i64 t109) := (blk_cell BK105.out 2).trans rfl
                  have hcz43_3 : wc.cell? ⟨gb105, 3, none⟩ = some (.int .i64 t110) := (blk_cell BK105.out 3).trans rfl
                  have hfz43_0 := blk_frozen BK105.out 0
                  have hfz43_1 := blk_frozen BK105.out 1
                  have hfz43_2 := blk_frozen BK105.out 2
                  have hfz43_3 := blk_frozen BK105.out 3
                  go_wp2
                  repeat (go_quiet (fail); try go_wp2)
                  go_ret
                  exact ⟨by first | rfl | (simp [errW_none, errW_some] <;> rfl) | (simp [*, errW_none, errW_some] <;> rfl), by repeat (first | (with_reducible first | exact HB.out | apply below_alloc | apply pw_below_drewN | apply below_drew1 | refine below_set ?_ GE105.out | refine below_set ?_ GE106.out) | exact HB.out)⟩
                · replace c41 := Bool.eq_false_iff.mpr c41
                  subst c41
                  have H1 : (if (wrap64 (t111 - 1)) = 0 then (none) else (some (mn (wrap64 (Int.tdiv (wrap64 (a2_0 * t111)) (wrap64 (t111 - 1)))) t108))) = some r := by rw [if_neg (show ¬ (false = true) by decide)] at H; exact H
                  clear H
                  have H := H1
                  clear H1
                  by_cases c44 : (wrap64 (t111 - 1)) = 0
                  · rw [if_pos c44] at H
                    exact absurd H (by simp)
                  · rw [if_neg c44] at H
                    have c44b0 : ((wrap64 (t111 - 1)) == 0) = false := beq_eq_false_iff_ne.mpr c44
                    have c44b1 : ((wrap64 (t111 - 1)) != 0) = true := bne_iff_ne.mpr c44
                    obtain ⟨ji45, hji45⟩ : ∃ j_ : Int, (mn (wrap64 (Int.tdiv (wrap64 (a2_0 * t111)) (wrap64 (t111 - 1)))) t108) = j_ := ⟨_, rfl⟩
                    replace H : (some ji45) = some r := by first | (rw [hji45] at H; exact H) | (simp only [hji45] at H ⊢; exact H)
                    have hji45_ : (if t108 < (wrap64 (Int.tdiv (wrap64 (a2_0 * t111)) (wrap64 (t111 - 1)))) then t108 else (wrap64 (Int.tdiv (wrap64 (a2_0 * t111)) (wrap64 (t111 - 1))))) = ji45 := hji45
                    obtain rfl := Option.some.inj H
                    have hnb46 := NB106_105.out
                    have hnc46 := NB105_106.out
                    have hcz47_0 : wc.cell? ⟨gb106, 0, none⟩ = some (.int .i64 a2_0) := (blk_cell BK106.out 0).trans rfl
                    have hcz47_1 : wc.cell? ⟨gb106, 1, none⟩ = some (.int .i64 a2_1) := (blk_cell BK106.out 1).trans rfl
                    have hcz47_2 : wc.cell? ⟨gb106, 2, none⟩ = some (.int .i64 a2_2) := (blk_cell BK106.out 2).trans rfl
                    have hcz47_3 : wc.cell? ⟨gb106, 3, none⟩ = some (.int .i64 a2_3) := (blk_cell BK106.out 3).trans rfl
                    have hfz47_0 := blk_frozen BK106.out 0
                    have hfz47_1 := blk_frozen BK106.out 1
                    have hfz47_2 := blk_frozen BK106.out 2
                    have hfz47_3 := blk_frozen BK106.out 3
                    have hcz48_0 : wc.cell? ⟨gb105, 0, none⟩ = some (.int .i64 t107) := (blk_cell BK105.out 0).trans rfl
                    have hcz48_1 : wc.cell? ⟨gb105, 1, none⟩ = some (.int .i64 t108) := (blk_cell BK105.out 1).trans rfl
                    have hcz48_2 : wc.cell? ⟨gb105, 2, none⟩ = some (.int .i64 t109) := (blk_cell BK105.out 2).trans rfl
                    have hcz48_3 : wc.cell? ⟨gb105, 3, none⟩ = some (.int .i64 t110) := (blk_cell BK105.out 3).trans rfl
                    have hfz48_0 := blk_frozen BK105.out 0
                    have hfz48_1 := blk_frozen BK105.out 1
                    have hfz48_2 := blk_frozen BK105.out 2
                    have hfz48_3 := blk_frozen BK105.out 3
                    go_wp2
                    repeat (go_quiet (fail); try go_wp2)
                    go_ret
                    exact ⟨by first | rfl | (simp [errW_none, errW_some] <;> rfl) | (simp only [← hji45]; first | rfl | (simp [errW_none, errW_some] <;> rfl)) | (simp [*, errW_none, errW_some] <;> rfl), by repeat (first | (with_reducible first | exact HB.out | apply below_alloc | apply pw_below_drewN | apply below_drew1 | refine below_set ?_ GE105.out | refine below_set ?_ GE106.out) | exact HB.out)⟩
        · rw [if_neg c28] at H
          have c28b0 : decide (0 < a2_1) = false := decide_eq_false c28
          clear c28
          replace H := Option.bind_eq_some_iff.mp H
          obtain ⟨t112, A490, H⟩ := H
          replace H : (if t112 = 0 then (none) else (if a1 = true then (if (wrap64 (Int.tdiv (wrap64 (a2_0 * (wrap64 (t112 - 1)))) t112)) < t107 then (some 0) else (some (mx (wrap64 (Int.tdiv (wrap64 (a2_0 * (wrap64 (t112 - 1)))) t112)) t107))) else (some (mx (wrap64 (Int.tdiv (wrap64 (a2_0 * (wrap64 (t112 - 1)))) t112)) t107)))) = some r := H
          have A49 := Aside0.mk A490
          clear A490
          by_cases c50 : t112 = 0
          · rw [if_pos c50] at H
            exact absurd H (by simp)
          · rw [if_neg c50] at H
            have c50b0 : (t112 == 0) = false := beq_eq_false_iff_ne.mpr c50
            have c50b1 : (t112 != 0) = true := bne_iff_ne.mpr c50
            by_cases c51 : a1 = true
            · subst c51
              have H1 : (if (wrap64 (Int.tdiv (wrap64 (a2_0 * (wrap64 (t112 - 1)))) t112)) < t107 then (some 0) else (some (mx (wrap64 (Int.tdiv (wrap64 (a2_0 * (wrap64 (t112 - 1)))) t112)) t107))) = some r := by rw [if_pos rfl] at H; exact H
              clear H
              have H := H1
              clear H1
              by_cases c52 : (wrap64 (Int.tdiv (wrap64 (a2_0 * (wrap64 (t112 - 1)))) t112)) < t107
              · rw [if_pos c52] at H
                have c52b0 : decide ((wrap64 (Int.tdiv (wrap64 (a2_0 * (wrap64 (t112 - 1)))) t112)) < t107) = true := decide_eq_true c52
                clear c52
                obtain rfl := Option.some.inj H
                have hnb53 := NB106_105.out
                have hnc53 := NB105_106.out
                have hcz54_0 : wc.cell? ⟨gb106, 0, none⟩ = some (.int .i64 a2_0) := (blk_cell BK106.out 0).trans rfl
                have hcz54_1 : wc.cell? ⟨gb106, 1, none⟩ = some (.int .i64 a2_1) := (blk_cell BK106.out 1).trans rfl
                have hcz54_2 : wc.cell? ⟨gb106, 2, none⟩ = some (.int .i64 a2_2) := (blk_cell BK106.out 2).trans rfl
                have hcz54_3 : wc.cell? ⟨gb106, 3, none⟩ = some (.int .i64 a2_3) := (blk_cell BK106.out 3).trans rfl
                have hfz54_0 := blk_frozen BK106.out 0
                have hfz54_1 := blk_frozen BK106.out 1
                have hfz54_2 := blk_frozen BK106.out 2
                have hfz54_3 := blk_frozen BK106.out 3
                have hcz55_0 : wc.cell? ⟨gb105, 0, none⟩ = some (.int .i64 t107) := (blk_cell BK105.out 0).trans rfl
                have hcz55_1 : wc.cell? ⟨gb105, 1, none⟩ = some (.int .i64 t108) := (blk_cell BK105.out 1).trans rfl
                have hcz55_2 : wc.cell? ⟨gb105, 2, none⟩ = some (.int .i64 t109) := (blk_cell BK105.out 2).trans rfl
                have hcz55_3 : wc.cell? ⟨gb105, 3, none⟩ = some (.int .i64 t110) := (blk_cell BK105.out 3).trans rfl
                have hfz55_0 := blk_frozen BK105.out 0
                have hfz55_1 := blk_frozen BK105.out 1
                have hfz55_2 := blk_frozen BK105.out 2
                have hfz55_3 := blk_frozen BK105.out 3
                go_wp2_with (first | (go_at_call 18; (with_reducible refine (spec_power.calls kj4 t109 t112 _ A49.out).mono ?_); rintro e w' ⟨rfl, ⟨nd, rfl⟩⟩; (try first | exact ⟨rfl, _, World.drewN_drewN _ _ _⟩ | exact ⟨rfl, _, Eq.trans (World.drewN_drewN _ _ _) (congrArg (World.drewN _) (Nat.add_assoc _ _ _))⟩)))
                repeat (go_quiet (first | (go_at_call 18; (with_reducible refine (spec_power.calls kj4 t109 t112 _ A49.out).mono ?_); rintro e w' ⟨rfl, ⟨nd, rfl⟩⟩; (try first | exact ⟨rfl, _, World.drewN_drewN _ _ _⟩ | exact ⟨rfl, _, Eq.trans (World.drewN_drewN _ _ _) (congrArg (World.drewN _) (Nat.add_assoc _ _ _))⟩))); try go_wp2_with (first | (go_at_call 18; (with_reducible refine (spec_power.calls kj4 t109 t112 _ A49.out).mono ?_); rintro e w' ⟨rfl, ⟨nd, rfl⟩⟩; (try first | exact ⟨rfl, _, World.drewN_drewN _ _ _⟩ | exact ⟨rfl, _, Eq.trans (World.drewN_drewN _ _ _) (congrArg (World.drewN _) (Nat.add_assoc _ _ _))⟩))))
                go_ret
                exact ⟨by first | rfl | (simp [errW_none, errW_some] <;> rfl) | (simp [*, errW_none, errW_some] <;> rfl), by repeat (first | (with_reducible first | exact HB.out | apply below_alloc | apply pw_below_drewN | apply below_drew1 | refine below_set ?_ GE105.out | refine below_set ?_ GE106.out) | exact HB.out)⟩
              · rw [if_neg c52] at H
                have c52b0 : decide ((wrap64 (Int.tdiv (wrap64 (a2_0 * (wrap64 (t112 - 1)))) t112)) < t107) = false := decide_eq_false c52
                clear c52
                obtain ⟨ji56, hji56⟩ : ∃ j_ : Int, (mx (wrap64 (Int.tdiv (wrap64 (a2_0 * (wrap64 (t112 - 1)))) t112)) t107) = j_ := ⟨_, rfl⟩
                replace H : (some ji56) = some r := by first | (rw [hji56] at H; exact H) | (simp only [hji56] at H ⊢; exact H)
                (try rw [hji56] at A49)
                have hji56_ : (if (wrap64 (Int.tdiv (wrap64 (a2_0 * (wrap64 (t112 - 1)))) t112)) < t107 then t107 else (wrap64 (Int.tdiv (wrap64 (a2_0 * (wrap64 (t112 - 1)))) t112))) = ji56 := hji56
                obtain rfl := Option.some.inj H
                have hnb57 := NB106_105.out
                have hnc57 := NB105_106.out
                have hcz58_0 : wc.cell? ⟨gb106, 0, none⟩ = some (.int .i64 a2_0) := (blk_cell BK106.out 0).trans rfl
                have hcz58_1 : wc.cell? ⟨gb106, 1, none⟩ = some (.int .i64 a2_1) := (blk_cell BK106.out 1).trans rfl
                have hcz58_2 : wc.cell? ⟨gb106, 2, none⟩ = some (.int .i64 a2_2) := (blk_cell BK106.out 2).trans rfl
                have hcz58_3 : wc.cell? ⟨gb106, 3, none⟩ = some (.int .i64 a2_3) := (blk_cell BK106.out 3).trans rfl
                have hfz58_0 := blk_frozen BK106.out 0
                have hfz58_1 := blk_frozen BK106.out 1
                have hfz58_2 := blk_frozen BK106.out 2
                have hfz58_3 := blk_frozen BK106.out 3
                have hcz59_0 : wc.cell? ⟨gb105, 0, none⟩ = some (.int .i64 t107) := (blk_cell BK105.out 0).trans rfl
                have hcz59_1 : wc.cell? ⟨gb105, 1, none⟩ = some (.int .i64 t108) := (blk_cell BK105.out 1).trans rfl
                have hcz59_2 : wc.cell? ⟨gb105, 2, none⟩ = some (.int .i64 t109) := (blk_cell BK105.out 2).trans rfl
                have hcz59_3 : wc.cell? ⟨gb105, 3, none⟩ = some (.int .i64 t110) := (blk_cell BK105.out 3).trans rfl
                have hfz59_0 := blk_frozen BK105.out 0
                have hfz59_1 := blk_frozen BK105.out 1
                have hfz59_2 := blk_frozen BK105.out 2
                have hfz59_3 := blk_frozen BK105.out 3
                go_wp2_with (first | (go_at_call 18; (with_reducible refine (spec_power.calls kj4 t109 t112 _ A49.out).mono ?_); rintro e w' ⟨rfl, ⟨nd, rfl⟩⟩; (try first | exact ⟨rfl, _, World.drewN_drewN _ _ _⟩ | exact ⟨rfl, _, Eq.trans (World.drewN_drewN _ _ _) (congrArg (World.drewN _) (Nat.add_assoc _ _ _))⟩)))
                repeat (go_quiet (first | (go_at_call 18; (with_reducible refine (spec_power.calls kj4 t109 t112 _ A49.out).mono ?_); rintro e w' ⟨rfl, ⟨nd, rfl⟩⟩; (try first | exact ⟨rfl, _, World.drewN_drewN _ _ _⟩ | exact ⟨rfl, _, Eq.trans (World.drewN_drewN _ _ _) (congrArg (World.drewN _) (Nat.add_assoc _ _ _))⟩))); try go_wp2_with (first | (go_at_call 18; (with_reducible refine (spec_power.calls kj4 t109 t112 _ A49.out).mono ?_); rintro e w' ⟨rfl, ⟨nd, rfl⟩⟩; (try first | exact ⟨rfl, _, World.drewN_drewN _ _ _⟩ | exact ⟨rfl, _, Eq.trans (World.drewN_drewN _ _ _) (congrArg (World.drewN _) (Nat.add_assoc _ _ _))⟩))))
                go_ret
                exact ⟨by first | rfl | (simp [errW_none, errW_some] <;> rfl) | (simp only [← hji56]; first | rfl | (simp [errW_none, errW_some] <;> rfl)) | (simp [*, errW_none, errW_some] <;> rfl), by repeat (first | (with_reducible first | exact HB.out | apply below_alloc | apply pw_below_drewN | apply below_drew1 | refine below_set ?_ GE105.out | refine below_set ?_ GE106.out) | exact HB.out)⟩
            · replace c51 := Bool.eq_false_iff.mpr c51
              subst c51
              have H1 : (some (mx (wrap64 (Int.tdiv (wrap64 (a2_0 * (wrap64 (t112 - 1)))) t112)) t107)) = some r := by rw [if_neg (show ¬ (false = true) by decide)] at H; exact H
              clear H
              have H := H1
              clear H1
              obtain ⟨ji60, hji60⟩ : ∃ j_ : Int, (mx (wrap64 (Int.tdiv (wrap64 (a2_0 * (wrap64 (t112 - 1)))) t112)) t107) = j_ := ⟨_, rfl⟩
              replace H : (some ji60) = some r := by first | (rw [hji60] at H; exact H) | (simp only [hji60] at H ⊢; exact H)
              (try rw [hji60] at A49)
              have hji60_ : (if (wrap64 (Int.tdiv (wrap64 (a2_0 * (wrap64 (t112 - 1)))) t112)) < t107 then t107 else (wrap64 (Int.tdiv (wrap64 (a2_0 * (wrap64 (t112 - 1)))) t112))) = ji60 := hji60
              obtain rfl := Option.some.inj H
              have hnb61 := NB106_105.out
              have hnc61 := NB105_106.out
              have hcz62_0 : wc.cell? ⟨gb106, 0, none⟩ = some (.int .i64 a2_0) := (blk_cell BK106.out 0).trans rfl
              have hcz62_1 : wc.cell? ⟨gb106, 1, none⟩ = some (.int .i64 a2_1) := (blk_cell BK106.out 1).trans rfl
              have hcz62_2 : wc.cell? ⟨gb106, 2, none⟩ = some (.int .i64 a2_2) := (blk_cell BK106.out 2).trans rfl
              have hcz62_3 : wc.cell? ⟨gb106, 3, none⟩ = some (.int .i64 a2_3) := (blk_cell BK106.out 3).trans rfl
              have hfz62_0 := blk_frozen BK106.out 0
              have hfz62_1 := blk_frozen BK106.out 1
              have hfz62_2 := blk_frozen BK106.out 2
              have hfz62_3 := blk_frozen BK106.out 3
              have hcz63_0 : wc.cell? ⟨gb105, 0, none⟩ = some (.int .i64 t107) := (blk_cell BK105.out 0).trans rfl
              have hcz63_1 : wc.cell? ⟨gb105, 1, none⟩ = some (.int .i64 t108) := (blk_cell BK105.out 1).trans rfl
              have hcz63_2 : wc.cell? ⟨gb105, 2, none⟩ = some (.int .i64 t109) := (blk_cell BK105.out 2).trans rfl
              have hcz63_3 : wc.cell? ⟨gb105, 3, none⟩ = some (.int .i64 t110) := (blk_cell BK105.out 3).trans rfl
              have hfz63_0 := blk_frozen BK105.out 0
              have hfz63_1 := blk_frozen BK105.out 1
              have hfz63_2 := blk_frozen BK105.out 2
              have hfz63_3 := blk_frozen BK105.out 3
              go_wp2_with (first | (go_at_call 18; (with_reducible refine (spec_power.calls kj4 t109 t112 _ A49.out).mono ?_); rintro e w' ⟨rfl, ⟨nd, rfl⟩⟩; (try first | exact ⟨rfl, _, World.drewN_drewN _ _ _⟩ | exact ⟨rfl, _, Eq.trans (World.drewN_drewN _ _ _) (congrArg (World.drewN _) (Nat.add_assoc _ _ _))⟩)))
              repeat (go_quiet (first | (go_at_call 18; (with_reducible refine (spec_power.calls kj4 t109 t112 _ A49.out).mono ?_); rintro e w' ⟨rfl, ⟨nd, rfl⟩⟩; (try first | exact ⟨rfl, _, World.drewN_drewN _ _ _⟩ | exact ⟨rfl, _, Eq.trans (World.drewN_drewN _ _ _) (congrArg (World.drewN _) (Nat.add_assoc _ _ _))⟩))); try go_wp2_with (first | (go_at_call 18; (with_reducible refine (spec_power.calls kj4 t109 t112 _ A49.out).mono ?_); rintro e w' ⟨rfl, ⟨nd, rfl⟩⟩; (try first | exact ⟨rfl, _, World.drewN_drewN _ _ _⟩ | exact ⟨rfl, _, Eq.trans (World.drewN_drewN _ _ _) (congrArg (World.drewN _) (Nat.add_assoc _ _ _))⟩))))
              go_ret
              exact ⟨by first | rfl | (simp [errW_none, errW_some] <;> rfl) | (simp only [← hji60]; first | rfl | (simp [errW_none, errW_some] <;> rfl)) | (simp [*, errW_none, errW_some] <;> rfl), by repeat (first | (with_reducible first | exact HB.out | apply below_alloc | apply pw_below_drewN | apply below_drew1 | refine below_set ?_ GE105.out | refine below_set ?_ GE106.out) | exact HB.out)⟩

-- NOT PRINTED: function 24 (errors_New)

-- NOT PRINTED: function 36 (pacer_RetryAfterError)

-- NOT PRINTED: function 31 (pacer_ZZRetryAfter)

-- NOT PRINTED: function 23 (impl_afterError)

-- NOT PRINTED: function 25 (pacer_ZZState)

-- NOT PRINTED: function 17 (impl_paceState)

-- NOT PRINTED: function 35 (pacer_Default_Update)

-- NOT PRINTED: function 34 (pacer_NewDefault)

-- NOT PRINTED: function 29 (impl_newDefault)

-- NOT PRINTED: function 32 (liberrors_Walk)

-- NOT PRINTED: function 28 (pacer_IsRetryAfter)

-- NOT PRINTED: function 30 (pacer_Default_Calculate)

/-! ### laws_paceAwake: function 12 -/
def laws_paceAwake.f  : Option (Bool) := (impl_PaceDefault.f 1 1000 1 1 100 1 (-1) 0).bind fun t116 => (some (t116 == 200))
set_option maxHeartbeats 8000000 in
set_option maxRecDepth 100000 in
theorem laws_paceAwake.calls  (r : Bool) (w : World) (h : laws_paceAwake.f  = some r) :
    Calls Try.prog 12 #[] w fun e w' => e = .returned (.bool r) ∧ Below w.heap.size w w' := by
  have hu26 := Try.underlying26
  have hu23 := Try.underlying23
  have HB := Aside0.mk (Below.refl w.heap.size w)
  have H : ((impl_PaceDefault.f 1 1000 1 1 100 1 (-1) 0).bind fun t116 => (some (t116 == 200))) = some r := h
  clear h
  replace H := Option.bind_eq_some_iff.mp H
  obtain ⟨t116, A10, H⟩ := H
  replace H : (some (t116 == 200)) = some r := H
  have A1 := Aside0.mk A10
  clear A10
  obtain rfl := Option.some.inj H
  go_enter Try.func12, Try.ntmps12
  go_wp2_with (first | ((with_reducible refine gate_callee (f := 21) rfl ?_); refine goesL_ (some 3) rfl rfl Try.func21 (by kernel_rfl) rfl #[.agg #[.int .i64 1, .int .i64 1000, .int .i64 1, .int .i64 1], .agg #[.int .i64 100, .int .i64 1, .int .i64 (-1), .int .i64 0]] rfl (by (try simp only [List.map_toArray, List.map_cons, List.map_nil]); first | done | rfl | (simp only [List.length_drop, List.length_take]; rfl)) ?_; (with_reducible refine (impl_PaceDefault.calls 1 1000 1 1 100 1 (-1) 0 t116 _ A1.out).mono ?_); rintro e w2 ⟨rfl, hb⟩; refine ⟨_, rfl, ?_⟩; have n0_ := Aside0.mk (below_step (by repeat (first | (with_reducible first | exact HB.out | apply below_alloc | apply pw_below_drewN | apply below_drew1) | exact HB.out)) hb); clear HB; have HB := n0_; clear n0_; (try clear hb); (try clear hb2); (try clear hk); (try clear hi)))
  go_ret
  exact ⟨by first | rfl | (simp [errW_none, errW_some] <;> rfl) | (simp [*, errW_none, errW_some] <;> rfl), by repeat (first | (with_reducible first | exact HB.out | apply below_alloc | apply pw_below_drewN | apply below_drew1) | exact HB.out)⟩

-- NOT PRINTED: function 27 (pacer_S3_Update)

-- NOT PRINTED: function 26 (pacer_NewS3)

-- NOT PRINTED: function 19 (impl_newS3)

/-! ### laws_paceRun: function 14 -/
def laws_paceRun.f (a0_0 : Int) (a0_1 : Int) (a0_2 : Int) (a0_3 : Int) (a1 : Bool) (a2 : Int) (l3 : List Bool) (l4 : List Int) : Option (List Int × Bool) := (impl_PaceRuns.f a0_0 a0_1 a0_2 a0_3 a1 a2 l3 l4).bind fun t119 => (some (t119, ((t119.length : Int) == (l3.length : Int))))
set_option maxHeartbeats 8000000 in
set_option maxRecDepth 100000 in
theorem laws_paceRun.calls (a0_0 : Int) (a0_1 : Int) (a0_2 : Int) (a0_3 : Int) (a1 : Bool) (a2 : Int) (A3 : Option Addr) (c3 : Nat) (l3 : List Bool) (A4 : Option Addr) (c4 : Nat) (l4 : List Int) (r1 : List Int) (r2 : Bool) (w : World) (hr3 : Kd.C Kd.bool w A3 l3.length l3) (hc3 : l3.length ≤ c3) (hr4 : Kd.C (Kd.int .i64) w A4 l4.length l4) (hc4 : l4.length ≤ c4) (h : laws_paceRun.f a0_0 a0_1 a0_2 a0_3 a1 a2 l3 l4 = some (r1, r2)) :
    Calls Try.prog 14 #[.agg #[.int .i64 a0_0, .int .i64 a0_1, .int .i64 a0_2, .int .i64 a0_3], .bool a1, .int .i64 a2, .slice A3 l3.length c3, .slice A4 l4.length c4] w fun e w' => ∃ v0_ : Value, e = .returned (.tuple #[v0_, .bool r2]) ∧ Kd.R (Kd.int .i64) 3 w' w.heap.size (fun _ => True) v0_ r1 ∧ Below w.heap.size w w' := by
  have hu26 := Try.underlying26
  have HR3 := Aside0.mk hr3
  have HC3 := Aside0.mk hc3
  clear hr3 hc3
  have HR4 := Aside0.mk hr4
  have HC4 := Aside0.mk hc4
  clear hr4 hc4
  have HB := Aside0.mk (Below.refl w.heap.size w)
  have H : ((impl_PaceRuns.f a0_0 a0_1 a0_2 a0_3 a1 a2 l3 l4).bind fun t119 => (some (t119, ((t119.length : Int) == (l3.length : Int))))) = some (r1, r2) := h
  clear h
  replace H := Option.bind_eq_some_iff.mp H
  obtain ⟨t119, A60, H⟩ := H
  replace H : (some (t119, ((t119.length : Int) == (l3.length : Int)))) = some (r1, r2) := H
  have A6 := Aside0.mk A60
  clear A60
  simp only [Option.some.injEq, Prod.mk.injEq] at H
  obtain ⟨rfl, rfl⟩ := H
  go_enter Try.func14, Try.ntmps14
  go_wp2_with (first | ((with_reducible refine gate_dst (N := 5) rfl ?_); refine box_event ?hg (N := 5) ?hd (cs := #[.int .i64 a0_0, .int .i64 a0_1, .int .i64 a0_2, .int .i64 a0_3]) (t := 26) ?hr ?_; (case hd => rfl); (case hg => rfl); (case hr => first | (go_simp; done) | (go_simp; rfl)); intro gb118 hg w7 hbox hb; have n0_ := Aside0.mk (below_step (by repeat (first | (with_reducible first | exact HB.out | apply below_alloc | apply pw_below_drewN | apply below_drew1) | exact HB.out)) hb); have n1_ := Aside0.mk (hbox); have n2_ := Aside0.mk ((by rw [hg]; exact (below_size (by repeat (first | (with_reducible first | exact HB.out | apply below_alloc | apply pw_below_drewN | apply below_drew1) | exact HB.out))) : w.heap.size ≤ gb118)); have n3_ := Aside0.mk ((by rw [hg]; exact (below_size (by repeat (first | (with_reducible first | exact HB.out | apply below_alloc | apply pw_below_drewN | apply below_drew1) | exact HB.out))) : w.heap.size ≤ gb118)); clear HB; have HB := n0_; have BK118 := n1_; have GW118 := n2_; have GE118 := n3_; clear n0_ n1_ n2_ n3_; clear hb hbox hg; have hcz8_0 : w7.cell? ⟨gb118, 0, none⟩ = some (.int .i64 a0_0) := (blk_cell BK118.out 0).trans rfl; have hcz8_1 : w7.cell? ⟨gb118, 1, none⟩ = some (.int .i64 a0_1) := (blk_cell BK118.out 1).trans rfl; have hcz8_2 : w7.cell? ⟨gb118, 2, none⟩ = some (.int .i64 a0_2) := (blk_cell BK118.out 2).trans rfl; have hcz8_3 : w7.cell? ⟨gb118, 3, none⟩ = some (.int .i64 a0_3) := (blk_cell BK118.out 3).trans rfl; have hfz8_0 := blk_frozen BK118.out 0; have hfz8_1 := blk_frozen BK118.out 1; have hfz8_2 := blk_frozen BK118.out 2; have hfz8_3 := blk_frozen BK118.out 3) | ((with_reducible refine gate_callee (f := 22) rfl ?_); refine goesL_ (some 18) rfl rfl Try.func22 (by kernel_rfl) rfl #[.agg #[.int .i64 a0_0, .int .i64 a0_1, .int .i64 a0_2, .int .i64 a0_3], .bool a1, .int .i64 a2, .slice A3 l3.length c3, .slice A4 l4.length c4] rfl (by (try simp only [List.map_toArray, List.map_cons, List.map_nil]); first | done | rfl | (simp only [List.length_drop, List.length_take]; rfl)) ?_; (with_reducible refine (impl_PaceRuns.calls a0_0 a0_1 a0_2 a0_3 a1 a2 _ _ l3 _ _ l4 t119 _ ?side1 ?side2 ?side3 ?side4 A6.out).mono ?_); (case side1 => repeat (first | exact (Kd.C_below HR3.out HB.out) | (with_reducible refine Kd.C_alloc ?_ _) | (with_reducible refine Kd.C_drewN ?_ _) | (with_reducible refine Kd.C_drew ?_))); (case side2 => exact HC3.out); (case side3 => repeat (first | exact (Kd.C_below HR4.out HB.out) | (with_reducible refine Kd.C_alloc ?_ _) | (with_reducible refine Kd.C_drewN ?_ _) | (with_reducible refine Kd.C_drew ?_))); (case side4 => exact HC4.out); rintro e w9 ⟨v120, rfl, ho0, hb⟩; refine ⟨_, rfl, ?_⟩; have n0_ := Aside0.mk (Kd.R_lower ho0 (below_size (by repeat (first | (with_reducible first | exact HB.out | apply below_alloc | apply pw_below_drewN | apply below_drew1 | refine below_set ?_ GE118.out) | exact HB.out)))); have n1_ := Aside0.mk (blk_below (g := gb118) (o := .cells #[.int .i64 a0_0, .int .i64 a0_1, .int .i64 a0_2, .int .i64 a0_3] 26 (0, 0)) (by (with_reducible repeat (first | refine blk_drewN ?_ _ | refine blk_drew ?_ | refine blk_alloc ?_ _)); exact BK118.out) hb); have n2_ := Aside0.mk (below_step (by repeat (first | (with_reducible first | exact HB.out | apply below_alloc | apply pw_below_drewN | apply below_drew1 | refine below_set ?_ GE118.out) | exact HB.out)) hb); clear BK118; clear HB; have HO121 := n0_; have BK118 := n1_; have HB := n2_; clear n0_ n1_ n2_; (try clear hb); (try clear hb2); (try clear hk); (try clear hi); (try clear ho0); obtain ⟨Ao10, co10, eo10⟩ := Kd.R_slice HO121.out; subst eo10))
  go_ret2
  exact ⟨_, by first | rfl | (simp [errW_none, errW_some] <;> rfl) | (simp [*, errW_none, errW_some] <;> rfl), by (with_reducible repeat (first | apply Kd.R_alloc | apply Kd.R_drewN | apply Kd.R_drew)); exact HO121.out, by repeat (first | (with_reducible first | exact HB.out | apply below_alloc | apply pw_below_drewN | apply below_drew1 | refine below_set ?_ GE118.out) | exact HB.out)⟩

end Go.Proofs.Ytgdjplpbpknfmaa.PR
