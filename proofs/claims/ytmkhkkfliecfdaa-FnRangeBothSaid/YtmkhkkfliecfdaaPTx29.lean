-- Written by a program of this session. -- slim
import Derived.Test.YtmkhkkfliecfdaaPTx20
namespace Go.Proofs.Ytmkhkkfliecfdaa.PT
open Go.RowKit Go.Proofs.YtmkhkkfliecfdaaW.PrintWords Go.Proofs.YtmkhkkfliecfdaaW.PrintLast Go.Proofs.Ytmkhkkfliecfdaa.Given Go.Proofs.Ytmkhkkfliecfdaa.Mm
attribute [local go_sem] mx_go mn_go
set_option linter.unusedVariables false
set_option linter.unusedSimpArgs false

attribute [local go_sem high] idx70
/-! ### impl_RangeBoth: function 20 -/
def impl_RangeBoth.f (a0_0 : Int) (a0_1 : Int) (a1_0 : Int) (a1_1 : Int) : Option (Int × Int) := (impl_given.f a0_0 a0_1).bind fun bt300 => ((impl_given.f a1_0 a1_1).bind fun bt302 => ((ranges_Range_Intersection.f bt300.1 bt300.2 bt302.1 bt302.2).bind fun bt304 => ((impl_told.f bt304.1 bt304.2).bind fun bt306 => (some (bt306.1, bt306.2)))))
set_option maxHeartbeats 8000000 in
set_option maxRecDepth 100000 in
theorem impl_RangeBoth.calls (a0_0 : Int) (a0_1 : Int) (a1_0 : Int) (a1_1 : Int) (r1 : Int) (r2 : Int) (w : World) (h : impl_RangeBoth.f a0_0 a0_1 a1_0 a1_1 = some (r1, r2)) :
  Calls Try.prog 20 #[.agg #[.int .i64 a0_0, .int .i64 a0_1], .agg #[.int .i64 a1_0, .int .i64 a1_1]] w fun e w' => e = .returned (.agg #[.int .i64 r1, .int .i64 r2]) ∧ Below w.heap.size w w' := by
 have hu24 := Try.underlying24
 have HB := Aside0.mk (Below.refl w.heap.size w)
 have H : ((impl_given.f a0_0 a0_1).bind fun bt300 => ((impl_given.f a1_0 a1_1).bind fun bt302 => ((ranges_Range_Intersection.f bt300.1 bt300.2 bt302.1 bt302.2).bind fun bt304 => ((impl_told.f bt304.1 bt304.2).bind fun bt306 => (some (bt306.1, bt306.2)))))) = some (r1, r2) := h
 clear h
 replace H := Option.bind_eq_some_iff.mp H
 obtain ⟨⟨t300, t301⟩, A30, H⟩ := H
 replace H : ((impl_given.f a1_0 a1_1).bind fun bt302 => ((ranges_Range_Intersection.f t300 t301 bt302.1 bt302.2).bind fun bt304 => ((impl_told.f bt304.1 bt304.2).bind fun bt306 => (some (bt306.1, bt306.2))))) = some (r1, r2) := H
 have A3 := Aside0.mk A30
 clear A30
 replace H := Option.bind_eq_some_iff.mp H
 obtain ⟨⟨t302, t303⟩, A40, H⟩ := H
 replace H : ((ranges_Range_Intersection.f t300 t301 t302 t303).bind fun bt304 => ((impl_told.f bt304.1 bt304.2).bind fun bt306 => (some (bt306.1, bt306.2)))) = some (r1, r2) := H
 have A4 := Aside0.mk A40
 clear A40
 replace H := Option.bind_eq_some_iff.mp H
 obtain ⟨⟨t304, t305⟩, A50, H⟩ := H
 replace H : ((impl_told.f t304 t305).bind fun bt306 => (some (bt306.1, bt306.2))) = some (r1, r2) := H
 have A5 := Aside0.mk A50
 clear A50
 replace H := Option.bind_eq_some_iff.mp H
 obtain ⟨⟨t306, t307⟩, A60, H⟩ := H
 replace H : (some (t306, t307)) = some (r1, r2) := H
 have A6 := Aside0.mk A60
 clear A60
 simp only [Option.some.injEq, Prod.mk.injEq] at H
 obtain ⟨rfl, rfl⟩ := H
 go_enter Try.func20, Try.ntmps20
 try go_wp2_with (first | ((with_reducible refine gate_dst (N := 2) rfl ?_); refine box_event ?hg (N := 2) ?hd (cs := #[.int .i64 a0_0, .int .i64 a0_1]) (t := 24) ?hr ?_; (case hd => rfl); (case hg => rfl); (case hr => first | (go_simp; done) | (go_simp; rfl)); intro gb297 hg w7 hbox hb; have n0_ := Aside0.mk (below_step (by repeat (first | (with_reducible first | exact HB.out | apply below_alloc | apply pw_below_drewN | apply below_drew1) | exact HB.out)) hb); have n1_ := Aside0.mk (hbox); have n2_ := Aside0.mk ((by rw [hg]; exact (below_size (by repeat (first | (with_reducible first | exact HB.out | apply below_alloc | apply pw_below_drewN | apply below_drew1) | exact HB.out))) : w.heap.size ≤ gb297)); have n3_ := Aside0.mk ((by rw [hg]; exact (below_size (by repeat (first | (with_reducible first | exact HB.out | apply below_alloc | apply pw_below_drewN | apply below_drew1) | exact HB.out))) : w.heap.size ≤ gb297)); clear HB; have HB := n0_; have BK297 := n1_; have GW297 := n2_; have GE297 := n3_; clear n0_ n1_ n2_ n3_; clear hb hbox hg) | ((with_reducible refine gate_dst (N := 3) rfl ?_); refine box_event ?hg (N := 3) ?hd (cs := #[.int .i64 a1_0, .int .i64 a1_1]) (t := 24) ?hr ?_; (case hd => rfl); (case hg => rfl); (case hr => first | (go_simp; done) | (go_simp; rfl)); intro gb298 hg w8 hbox hb; have n0_ := Aside0.mk (blk_below (g := gb297) (o := .cells #[.int .i64 a0_0, .int .i64 a0_1] 24 (0, 0)) (by (with_reducible repeat (first | refine blk_drewN ?_ _ | refine blk_drew ?_ | refine blk_alloc ?_ _)); exact BK297.out) hb); have n1_ := Aside0.mk (below_step (by repeat (first | (with_reducible first | exact HB.out | apply below_alloc | apply pw_below_drewN | apply below_drew1 | refine below_set ?_ GE297.out) | exact HB.out)) hb); have n2_ := Aside0.mk (hbox); have n3_ := Aside0.mk ((by rw [hg]; exact (below_size (by repeat (first | (with_reducible first | exact HB.out | apply below_alloc | apply pw_below_drewN | apply below_drew1 | refine below_set ?_ GE297.out) | exact HB.out))) : w.heap.size ≤ gb298)); have n4_ := Aside0.mk ((by rw [hg]; exact (below_size (by repeat (first | (with_reducible first | exact HB.out | apply below_alloc | apply pw_below_drewN | apply below_drew1 | refine below_set ?_ GE297.out) | exact HB.out))) : w.heap.size ≤ gb298)); have n5_ := Aside0.mk ((by rw [hg]; exact Nat.ne_of_lt (blk_lt (g := gb297) (o := .cells #[.int .i64 a0_0, .int .i64 a0_1] 24 (0, 0)) (by (with_reducible repeat (first | refine blk_drewN ?_ _ | refine blk_drew ?_ | refine blk_alloc ?_ _)); exact BK297.out)) : gb297 ≠ gb298)); have n6_ := Aside0.mk ((by rw [hg]; exact Nat.ne_of_gt (blk_lt (g := gb297) (o := .cells #[.int .i64 a0_0, .int .i64 a0_1] 24 (0, 0)) (by (with_reducible repeat (first | refine blk_drewN ?_ _ | refine blk_drew ?_ | refine blk_alloc ?_ _)); exact BK297.out)) : gb298 ≠ gb297)); clear BK297; clear HB; have BK297 := n0_; have HB := n1_; have BK298 := n2_; have GW298 := n3_; have GE298 := n4_; have NB297_298 := n5_; have NB298_297 := n6_; clear n0_ n1_ n2_ n3_ n4_ n5_ n6_; clear hb hbox hg) | ((with_reducible refine gate_dst (N := 4) rfl ?_); refine box_event ?hg (N := 4) ?hd (cs := #[.int .i64 0, .int .i64 0]) (t := 24) ?hr ?_; (case hd => rfl); (case hg => rfl); (case hr => first | (go_simp; done) | (go_simp; rfl)); intro gb299 hg w9 hbox hb; have n0_ := Aside0.mk (blk_below (g := gb297) (o := .cells #[.int .i64 a0_0, .int .i64 a0_1] 24 (0, 0)) (by (with_reducible repeat (first | refine blk_drewN ?_ _ | refine blk_drew ?_ | refine blk_alloc ?_ _)); exact BK297.out) hb); have n1_ := Aside0.mk (blk_below (g := gb298) (o := .cells #[.int .i64 a1_0, .int .i64 a1_1] 24 (0, 0)) (by (with_reducible repeat (first | refine blk_drewN ?_ _ | refine blk_drew ?_ | refine blk_alloc ?_ _)); exact BK298.out) hb); have n2_ := Aside0.mk (below_step (by repeat (first | (with_reducible first | exact HB.out | apply below_alloc | apply pw_below_drewN | apply below_drew1 | refine below_set ?_ GE297.out | refine below_set ?_ GE298.out) | exact HB.out)) hb); have n3_ := Aside0.mk (hbox); have n4_ := Aside0.mk ((by rw [hg]; exact (below_size (by repeat (first | (with_reducible first | exact HB.out | apply below_alloc | apply pw_below_drewN | apply below_drew1 | refine below_set ?_ GE297.out | refine below_set ?_ GE298.out) | exact HB.out))) : w.heap.size ≤ gb299)); have n5_ := Aside0.mk ((by rw [hg]; exact (below_size (by repeat (first | (with_reducible first | exact HB.out | apply below_alloc | apply pw_below_drewN | apply below_drew1 | refine below_set ?_ GE297.out | refine below_set ?_ GE298.out) | exact HB.out))) : w.heap.size ≤ gb299)); have n6_ := Aside0.mk ((by rw [hg]; exact Nat.ne_of_lt (blk_lt (g := gb297) (o := .cells #[.int .i64 a0_0, .int .i64 a0_1] 24 (0, 0)) (by (with_reducible repeat (first | refine blk_drewN ?_ _ | refine blk_drew ?_ | refine blk_alloc ?_ _)); exact BK297.out)) : gb297 ≠ gb299)); have n7_ := Aside0.mk ((by rw [hg]; exact Nat.ne_of_gt (blk_lt (g := gb297) (o := .cells #[.int .i64 a0_0, .int .i64 a0_1] 24 (0, 0)) (by (with_reducible repeat (first | refine blk_drewN ?_ _ | refine blk_drew ?_ | refine blk_alloc ?_ _)); exact BK297.out)) : gb299 ≠ gb297)); have n8_ := Aside0.mk ((by rw [hg]; exact Nat.ne_of_lt (blk_lt (g := gb298) (o := .cells #[.int .i64 a1_0, .int .i64 a1_1] 24 (0, 0)) (by (with_reducible repeat (first | refine blk_drewN ?_ _ | refine blk_drew ?_ | refine blk_alloc ?_ _)); exact BK298.out)) : gb298 ≠ gb299)); have n9_ := Aside0.mk ((by rw [hg]; exact Nat.ne_of_gt (blk_lt (g := gb298) (o := .cells #[.int .i64 a1_0, .int .i64 a1_1] 24 (0, 0)) (by (with_reducible repeat (first | refine blk_drewN ?_ _ | refine blk_drew ?_ | refine blk_alloc ?_ _)); exact BK298.out)) : gb299 ≠ gb298)); clear BK297; clear BK298; clear HB; have BK297 := n0_; have BK298 := n1_; have HB := n2_; have BK299 := n3_; have GW299 := n4_; have GE299 := n5_; have NB297_299 := n6_; have NB299_297 := n7_; have NB298_299 := n8_; have NB299_298 := n9_; clear n0_ n1_ n2_ n3_ n4_ n5_ n6_ n7_ n8_ n9_; clear hb hbox hg))
 have n0_ := Aside0.mk (blk_drew BK297.out)
 have n1_ := Aside0.mk (blk_drew BK298.out)
 have n2_ := Aside0.mk (blk_drew BK299.out)
 have n3_ := Aside0.mk (below_drew1 HB.out)
 clear BK297
 clear BK298
 clear BK299
 clear HB
 have BK297 := n0_
 have BK298 := n1_
 have BK299 := n2_
 have HB := n3_
 clear n0_ n1_ n2_ n3_
 refine start_ (n := 7) (S := fun w' => w'.cell? ⟨gb297, 0, none⟩ = some (.int .i64 a0_0) ∧ w'.cell? ⟨gb297, 1, none⟩ = some (.int .i64 a0_1) ∧ w'.cell? ⟨gb298, 0, none⟩ = some (.int .i64 a1_0) ∧ w'.cell? ⟨gb298, 1, none⟩ = some (.int .i64 a1_1)) (ds := []) #[false, false, false, false, false, false, false] (by kernel_rfl) rfl rfl ⟨(blk_cell BK297.out 0).trans rfl, (blk_cell BK297.out 1).trans rfl, (blk_cell BK298.out 0).trans rfl, (blk_cell BK298.out 1).trans rfl⟩ (fun hHeld => ?_)
 generalize w9.drew = w10 at BK297 BK298 BK299 HB hHeld ⊢
 refine take_ (i := 0) (N := some 5) (v := ?_) (a' := ?_) #[true, false, false, false, false, false, false] rfl rfl (by kernel_rfl) (fun _ _ _ h => h) (Or.inl ⟨by rfl, ?_⟩) hHeld ?_ ?_
 rotate_left
 ·rintro w' ⟨s0, s1, s2, s3⟩
  go_simp
  with_reducible rfl
 rotate_left
 ·simp only [Act.put, List.setIfInBounds_toArray, List.set_cons_zero, List.set_cons_succ, i64_w, i32_w]
  rfl
 refine take_ (i := 2) (N := some 7) (v := ?_) (a' := ?_) #[true, false, true, false, false, false, false] rfl rfl (by kernel_rfl) (fun _ _ _ h => h) (Or.inl ⟨by rfl, ?_⟩) hHeld ?_ ?_
 rotate_left
 ·rintro w' ⟨s0, s1, s2, s3⟩
  go_simp
  with_reducible rfl
 rotate_left
 ·simp only [Act.put, List.setIfInBounds_toArray, List.set_cons_zero, List.set_cons_succ, i64_w, i32_w]
  rfl
 refine one_ (i := 1) (N := some 6) #[true, true, true, false, false, false, false] rfl rfl (by kernel_rfl) (by decide) (fun K hK => ?_)
 refine goes_ Try.func34 (by kernel_rfl) rfl #[.agg #[.int .i64 a0_0, .int .i64 a0_1]] (by rfl) rfl rfl (by (try simp only [List.map_toArray, List.map_cons, List.map_nil]); first | done | rfl | (simp only [List.length_drop, List.length_take]; rfl)) ?_
 with_reducible refine (impl_given.calls a0_0 a0_1 t300 t301 _ A3.out).mono ?_
 rintro e w11 ⟨rfl, hb⟩
 refine ⟨_, rfl, ?_⟩
 have n0_ := Aside0.mk (blk_below (g := gb297) (o := .cells #[.int .i64 a0_0, .int .i64 a0_1] 24 (0, 0)) (by (with_reducible repeat (first | refine blk_drewN ?_ _ | refine blk_drew ?_ | refine blk_alloc ?_ _)); exact BK297.out) hb)
 have n1_ := Aside0.mk (blk_below (g := gb298) (o := .cells #[.int .i64 a1_0, .int .i64 a1_1] 24 (0, 0)) (by (with_reducible repeat (first | refine blk_drewN ?_ _ | refine blk_drew ?_ | refine blk_alloc ?_ _)); exact BK298.out) hb)
 have n2_ := Aside0.mk (blk_below (g := gb299) (o := .cells #[.int .i64 0, .int .i64 0] 24 (0, 0)) (by (with_reducible repeat (first | refine blk_drewN ?_ _ | refine blk_drew ?_ | refine blk_alloc ?_ _)); exact BK299.out) hb)
 have n3_ := Aside0.mk (below_step (by repeat (first | (with_reducible first | exact HB.out | apply below_alloc | apply pw_below_drewN | apply below_drew1 | refine below_set ?_ GE297.out | refine below_set ?_ GE298.out | refine below_set ?_ GE299.out) | exact HB.out)) hb)
 clear BK297
 clear BK298
 clear BK299
 clear HB
 have BK297 := n0_
 have BK298 := n1_
 have BK299 := n2_
 have HB := n3_
 clear n0_ n1_ n2_ n3_
 (try clear hb)
 (try clear hb2)
 (try clear hk)
 (try clear hi)
 refine hK.out _ _ ⟨(blk_cell BK297.out 0).trans rfl, (blk_cell BK297.out 1).trans rfl, (blk_cell BK298.out 0).trans rfl, (blk_cell BK298.out 1).trans rfl⟩ (fun hHeld => ?_)
 clear hK K
 refine norm_ (a' := ?_) ?_ ?_
 rotate_left
 ·show Act.put _ (some 6) _ = _
  simp only [Act.put, List.setIfInBounds_toArray, List.set_cons_zero, List.set_cons_succ, i64_w, i32_w]
  rfl
 refine one_ (i := 3) (N := some 8) #[true, true, true, true, false, false, false] rfl rfl (by kernel_rfl) (by decide) (fun K hK => ?_)
 refine goes_ Try.func34 (by kernel_rfl) rfl #[.agg #[.int .i64 a1_0, .int .i64 a1_1]] (by rfl) rfl rfl (by (try simp only [List.map_toArray, List.map_cons, List.map_nil]); first | done | rfl | (simp only [List.length_drop, List.length_take]; rfl)) ?_
 with_reducible refine (impl_given.calls a1_0 a1_1 t302 t303 _ A4.out).mono ?_
 rintro e w12 ⟨rfl, hb⟩
 refine ⟨_, rfl, ?_⟩
 have n0_ := Aside0.mk (blk_below (g := gb297) (o := .cells #[.int .i64 a0_0, .int .i64 a0_1] 24 (0, 0)) (by (with_reducible repeat (first | refine blk_drewN ?_ _ | refine blk_drew ?_ | refine blk_alloc ?_ _)); exact BK297.out) hb)
 have n1_ := Aside0.mk (blk_below (g := gb298) (o := .cells #[.int .i64 a1_0, .int .i64 a1_1] 24 (0, 0)) (by (with_reducible repeat (first | refine blk_drewN ?_ _ | refine blk_drew ?_ | refine blk_alloc ?_ _)); exact BK298.out) hb)
 have n2_ := Aside0.mk (blk_below (g := gb299) (o := .cells #[.int .i64 0, .int .i64 0] 24 (0, 0)) (by (with_reducible repeat (first | refine blk_drewN ?_ _ | refine blk_drew ?_ | refine blk_alloc ?_ _)); exact BK299.out) hb)
 have n3_ := Aside0.mk (below_step (by repeat (first | (with_reducible first | exact HB.out | apply below_alloc | apply pw_below_drewN | apply below_drew1 | refine below_set ?_ GE297.out | refine below_set ?_ GE298.out | refine below_set ?_ GE299.out) | exact HB.out)) hb)
 clear BK297
 clear BK298
 clear BK299
 clear HB
 have BK297 := n0_
 have BK298 := n1_
 have BK299 := n2_
 have HB := n3_
 clear n0_ n1_ n2_ n3_
 (try clear hb)
 (try clear hb2)
 (try clear hk)
 (try clear hi)
 refine hK.out _ _ ⟨(blk_cell BK297.out 0).trans rfl, (blk_cell BK297.out 1).trans rfl, (blk_cell BK298.out 0).trans rfl, (blk_cell BK298.out 1).trans rfl⟩ (fun hHeld => ?_)
 clear hK K
 refine norm_ (a' := ?_) ?_ ?_
 rotate_left
 ·show Act.put _ (some 8) _ = _
  simp only [Act.put, List.setIfInBounds_toArray, List.set_cons_zero, List.set_cons_succ, i64_w, i32_w]
  rfl
 refine one_ (i := 4) (N := some 9) #[true, true, true, true, true, false, false] rfl rfl (by kernel_rfl) (by decide) (fun K hK => ?_)
 refine goes_ Try.func41 (by kernel_rfl) rfl #[.agg #[.int .i64 t300, .int .i64 t301], .agg #[.int .i64 t302, .int .i64 t303]] (by rfl) rfl rfl (by (try simp only [List.map_toArray, List.map_cons, List.map_nil]); first | done | rfl | (simp only [List.length_drop, List.length_take]; rfl)) ?_
 with_reducible refine (ranges_Range_Intersection.calls t300 t301 t302 t303 t304 t305 _ A5.out).mono ?_
 rintro e w13 ⟨rfl, hb⟩
 refine ⟨_, rfl, ?_⟩
 have n0_ := Aside0.mk (blk_below (g := gb297) (o := .cells #[.int .i64 a0_0, .int .i64 a0_1] 24 (0, 0)) (by (with_reducible repeat (first | refine blk_drewN ?_ _ | refine blk_drew ?_ | refine blk_alloc ?_ _)); exact BK297.out) hb)
 have n1_ := Aside0.mk (blk_below (g := gb298) (o := .cells #[.int .i64 a1_0, .int .i64 a1_1] 24 (0, 0)) (by (with_reducible repeat (first | refine blk_drewN ?_ _ | refine blk_drew ?_ | refine blk_alloc ?_ _)); exact BK298.out) hb)
 have n2_ := Aside0.mk (blk_below (g := gb299) (o := .cells #[.int .i64 0, .int .i64 0] 24 (0, 0)) (by (with_reducible repeat (first | refine blk_drewN ?_ _ | refine blk_drew ?_ | refine blk_alloc ?_ _)); exact BK299.out) hb)
 have n3_ := Aside0.mk (below_step (by repeat (first | (with_reducible first | exact HB.out | apply below_alloc | apply pw_below_drewN | apply below_drew1 | refine below_set ?_ GE297.out | refine below_set ?_ GE298.out | refine below_set ?_ GE299.out) | exact HB.out)) hb)
 clear BK297
 clear BK298
 clear BK299
 clear HB
 have BK297 := n0_
 have BK298 := n1_
 have BK299 := n2_
 have HB := n3_
 clear n0_ n1_ n2_ n3_
 (try clear hb)
 (try clear hb2)
 (try clear hk)
 (try clear hi)
 refine hK.out _ _ ⟨(blk_cell BK297.out 0).trans rfl, (blk_cell BK297.out 1).trans rfl, (blk_cell BK298.out 0).trans rfl, (blk_cell BK298.out 1).trans rfl⟩ (fun hHeld => ?_)
 clear hK K
 refine norm_ (a' := ?_) ?_ ?_
 rotate_left
 ·show Act.put _ (some 9) _ = _
  simp only [Act.put, List.setIfInBounds_toArray, List.set_cons_zero, List.set_cons_succ, i64_w, i32_w]
  rfl
 refine one_ (i := 5) (N := some 10) #[true, true, true, true, true, true, false] rfl rfl (by kernel_rfl) (by decide) (fun K hK => ?_)
 refine goes_ Try.func35 (by kernel_rfl) rfl #[.agg #[.int .i64 t304, .int .i64 t305]] (by rfl) rfl rfl (by (try simp only [List.map_toArray, List.map_cons, List.map_nil]); first | done | rfl | (simp only [List.length_drop, List.length_take]; rfl)) ?_
 with_reducible refine (impl_told.calls t304 t305 t306 t307 _ A6.out).mono ?_
 rintro e w14 ⟨rfl, hb⟩
 refine ⟨_, rfl, ?_⟩
 have n0_ := Aside0.mk (blk_below (g := gb297) (o := .cells #[.int .i64 a0_0, .int .i64 a0_1] 24 (0, 0)) (by (with_reducible repeat (first | refine blk_drewN ?_ _ | refine blk_drew ?_ | refine blk_alloc ?_ _)); exact BK297.out) hb)
 have n1_ := Aside0.mk (blk_below (g := gb298) (o := .cells #[.int .i64 a1_0, .int .i64 a1_1] 24 (0, 0)) (by (with_reducible repeat (first | refine blk_drewN ?_ _ | refine blk_drew ?_ | refine blk_alloc ?_ _)); exact BK298.out) hb)
 have n2_ := Aside0.mk (blk_below (g := gb299) (o := .cells #[.int .i64 0, .int .i64 0] 24 (0, 0)) (by (with_reducible repeat (first | refine blk_drewN ?_ _ | refine blk_drew ?_ | refine blk_alloc ?_ _)); exact BK299.out) hb)
 have n3_ := Aside0.mk (below_step (by repeat (first | (with_reducible first | exact HB.out | apply below_alloc | apply pw_below_drewN | apply below_drew1 | refine below_set ?_ GE297.out | refine below_set ?_ GE298.out | refine below_set ?_ GE299.out) | exact HB.out)) hb)
 clear BK297
 clear BK298
 clear BK299
 clear HB
 have BK297 := n0_
 have BK298 := n1_
 have BK299 := n2_
 have HB := n3_
 clear n0_ n1_ n2_ n3_
 (try clear hb)
 (try clear hb2)
 (try clear hk)
 (try clear hi)
 refine hK.out _ _ ⟨(blk_cell BK297.out 0).trans rfl, (blk_cell BK297.out 1).trans rfl, (blk_cell BK298.out 0).trans rfl, (blk_cell BK298.out 1).trans rfl⟩ (fun hHeld => ?_)
 clear hK K
 refine norm_ (a' := ?_) ?_ ?_
 rotate_left
 ·show Act.put _ (some 10) _ = _
  simp only [Act.put, List.setIfInBounds_toArray, List.set_cons_zero, List.set_cons_succ, i64_w, i32_w]
  rfl
 refine one_ (i := 6) (N := none) #[true, true, true, true, true, true, true] rfl rfl (by kernel_rfl) (by decide) (fun K hK => ?_)
 have hs15 : w14.cell? ⟨gb299, 0, none⟩ = some (.int .i64 0) := (blk_cell BK299.out 0).trans rfl
 have hfs15 := blk_frozen BK299.out 0
 have hns15_0 := NB297_299.out
 have hns15_1 := NB298_299.out
 have hms15_0 := NB299_297.out
 have hms15_1 := NB299_298.out
 have hs16 : w14.cell? ⟨gb299, 1, none⟩ = some (.int .i64 0) := (blk_cell BK299.out 1).trans rfl
 have hfs16 := blk_frozen BK299.out 1
 have hns16_0 := NB297_299.out
 have hns16_1 := NB298_299.out
 have hms16_0 := NB299_297.out
 have hms16_1 := NB299_298.out
 refine skip_ (w1 := ?_) (by rfl) rfl ?_ ?_
 rotate_left
 ·go_simp
  rfl
 refine hK.out _ _ ⟨((cell_far (p := ⟨gb299, _, none⟩) NB297_299.out _).trans (((cell_far (p := ⟨gb299, _, none⟩) NB297_299.out _).trans (hHeld.1)))), ((cell_far (p := ⟨gb299, _, none⟩) NB297_299.out _).trans (((cell_far (p := ⟨gb299, _, none⟩) NB297_299.out _).trans (hHeld.2.1)))), ((cell_far (p := ⟨gb299, _, none⟩) NB298_299.out _).trans (((cell_far (p := ⟨gb299, _, none⟩) NB298_299.out _).trans (hHeld.2.2.1)))), ((cell_far (p := ⟨gb299, _, none⟩) NB298_299.out _).trans (((cell_far (p := ⟨gb299, _, none⟩) NB298_299.out _).trans (hHeld.2.2.2))))⟩ (fun hHeld => ?_)
 clear hK K
 refine done_ (by kernel_rfl) ?_
 try go_wp2
 refine bodyPost_ret (results_cell_row rfl _ _ gb299 24 #[.int .i64 t306, .int .i64 t307] (0, 0) _ rfl (by (with_reducible repeat (first | refine blk_drewN ?_ _ | refine blk_drew ?_ | refine blk_alloc ?_ _)); refine blk_put (cs := #[.int .i64 t306, .int .i64 0]) ?_ 1 _ rfl; (with_reducible repeat (first | refine blk_drewN ?_ _ | refine blk_drew ?_ | refine blk_alloc ?_ _)); refine blk_put (cs := #[.int .i64 0, .int .i64 0]) ?_ 0 _ rfl; (with_reducible repeat (first | refine blk_drewN ?_ _ | refine blk_drew ?_ | refine blk_alloc ?_ _)); exact BK299.out) Try.underlying24 rfl (by kernel_rfl)) rfl ?_
 exact ⟨by first | rfl | (simp [errW_none, errW_some] <;> rfl) | (simp [*, errW_none, errW_some] <;> rfl), by repeat (first | (with_reducible first | exact HB.out | apply below_alloc | apply pw_below_drewN | apply below_drew1 | refine below_set ?_ GE297.out | refine below_set ?_ GE298.out | refine below_set ?_ GE299.out) | exact HB.out)⟩

end Go.Proofs.Ytmkhkkfliecfdaa.PT
