-- Written by a program of this session. -- slim
import Derived.Test.YtmkhkkfliecfdaaPTx20
import Derived.Test.YtmkhkkfliecfdaaPTx33
namespace Go.Proofs.Ytmkhkkfliecfdaa.PT
open Go.RowKit Go.Proofs.YtmkhkkfliecfdaaW.PrintWords Go.Proofs.YtmkhkkfliecfdaaW.PrintLast Go.Proofs.Ytmkhkkfliecfdaa.Given Go.Proofs.Ytmkhkkfliecfdaa.Mm
attribute [local go_sem] mx_go mn_go
set_option linter.unusedVariables false
set_option linter.unusedSimpArgs false

attribute [local go_sem high] idx70
/-! ### impl_RangesPresent: function 23 -/
def impl_RangesPresent.f (l0 : List (S24)) (a1_0 : Int) (a1_1 : Int) : Option (Bool) := (impl_inserted.f l0).bind fun t343 => ((impl_given.f a1_0 a1_1).bind fun bt346 => ((ranges_Ranges_Present.f t343 bt346.1 bt346.2).bind fun t348 => (some t348)))
set_option maxHeartbeats 8000000 in
set_option maxRecDepth 100000 in
theorem impl_RangesPresent.calls (A0 : Option Addr) (c0 : Nat) (l0 : List (S24)) (a1_0 : Int) (a1_1 : Int) (r : Bool) (w : World) (hr0 : Kd.C k24 w A0 l0.length l0) (hc0 : l0.length ≤ c0) (h : impl_RangesPresent.f l0 a1_0 a1_1 = some r) :
  Calls Try.prog 23 #[.slice A0 l0.length c0, .agg #[.int .i64 a1_0, .int .i64 a1_1]] w fun e w' => e = .returned (.bool r) ∧ Below w.heap.size w w' := by
 have hu24 := Try.underlying24
 have HR0 := Aside0.mk hr0
 have HC0 := Aside0.mk hc0
 clear hr0 hc0
 have HB := Aside0.mk (Below.refl w.heap.size w)
 have H : ((impl_inserted.f l0).bind fun t343 => ((impl_given.f a1_0 a1_1).bind fun bt346 => ((ranges_Ranges_Present.f t343 bt346.1 bt346.2).bind fun t348 => (some t348)))) = some r := h
 clear h
 replace H := Option.bind_eq_some_iff.mp H
 obtain ⟨t343, A30, H⟩ := H
 replace H : ((impl_given.f a1_0 a1_1).bind fun bt346 => ((ranges_Ranges_Present.f t343 bt346.1 bt346.2).bind fun t348 => (some t348))) = some r := H
 have A3 := Aside0.mk A30
 clear A30
 replace H := Option.bind_eq_some_iff.mp H
 obtain ⟨⟨t346, t347⟩, A40, H⟩ := H
 replace H : ((ranges_Ranges_Present.f t343 t346 t347).bind fun t348 => (some t348)) = some r := H
 have A4 := Aside0.mk A40
 clear A40
 replace H := Option.bind_eq_some_iff.mp H
 obtain ⟨t348, A50, H⟩ := H
 replace H : (some t348) = some r := H
 have A5 := Aside0.mk A50
 clear A50
 obtain rfl := Option.some.inj H
 go_enter Try.func23, Try.ntmps23
 try go_wp2_with (first | ((with_reducible refine gate_dst (N := 3) rfl ?_); refine box_event ?hg (N := 3) ?hd (cs := #[.int .i64 a1_0, .int .i64 a1_1]) (t := 24) ?hr ?_; (case hd => rfl); (case hg => rfl); (case hr => first | (go_simp; done) | (go_simp; rfl)); intro gb342 hg w6 hbox hb; have n0_ := Aside0.mk (below_step (by repeat (first | (with_reducible first | exact HB.out | apply below_alloc | apply pw_below_drewN | apply below_drew1) | exact HB.out)) hb); have n1_ := Aside0.mk (hbox); have n2_ := Aside0.mk ((by rw [hg]; exact (below_size (by repeat (first | (with_reducible first | exact HB.out | apply below_alloc | apply pw_below_drewN | apply below_drew1) | exact HB.out))) : w.heap.size ≤ gb342)); have n3_ := Aside0.mk ((by rw [hg]; exact (below_size (by repeat (first | (with_reducible first | exact HB.out | apply below_alloc | apply pw_below_drewN | apply below_drew1) | exact HB.out))) : w.heap.size ≤ gb342)); clear HB; have HB := n0_; have BK342 := n1_; have GW342 := n2_; have GE342 := n3_; clear n0_ n1_ n2_ n3_; clear hb hbox hg))
 have n0_ := Aside0.mk (blk_drew BK342.out)
 have n1_ := Aside0.mk (below_drew1 HB.out)
 clear BK342
 clear HB
 have BK342 := n0_
 have HB := n1_
 clear n0_ n1_
 refine start_ (n := 6) (S := fun w' => w'.cell? ⟨gb342, 0, none⟩ = some (.int .i64 a1_0) ∧ w'.cell? ⟨gb342, 1, none⟩ = some (.int .i64 a1_1)) (ds := []) #[false, false, false, false, false, false] (by kernel_rfl) rfl rfl ⟨(blk_cell BK342.out 0).trans rfl, (blk_cell BK342.out 1).trans rfl⟩ (fun hHeld => ?_)
 generalize w6.drew = w7 at BK342 HB hHeld ⊢
 refine pure_ (i := 0) (N := some 5) (v := ?_) (a' := ?_) #[true, false, false, false, false, false] rfl rfl (by kernel_rfl) (fun _ _ _ h => h) (Or.inl ⟨by rfl, ?_⟩) ?_ ?_
 rotate_left
 ·intro w'
  go_simp
  with_reducible rfl
 rotate_left
 ·simp only [Act.put, List.setIfInBounds_toArray, List.set_cons_zero, List.set_cons_succ, i64_w, i32_w]
  rfl
 refine take_ (i := 2) (N := some 7) (v := ?_) (a' := ?_) #[true, false, true, false, false, false] rfl rfl (by kernel_rfl) (fun _ _ _ h => h) (Or.inl ⟨by rfl, ?_⟩) hHeld ?_ ?_
 rotate_left
 ·rintro w' ⟨s0, s1⟩
  go_simp
  with_reducible rfl
 rotate_left
 ·simp only [Act.put, List.setIfInBounds_toArray, List.set_cons_zero, List.set_cons_succ, i64_w, i32_w]
  rfl
 refine one_ (i := 1) (N := some 6) #[true, true, true, false, false, false] rfl rfl (by kernel_rfl) (by decide) (fun K hK => ?_)
 refine goes_ Try.func32 (by kernel_rfl) rfl #[.slice A0 l0.length c0] (by rfl) rfl rfl (by (try simp only [List.map_toArray, List.map_cons, List.map_nil]); first | done | rfl | (simp only [List.length_drop, List.length_take]; rfl)) ?_
 with_reducible refine (impl_inserted.calls _ _ l0 t343 _ ?side1 ?side2 A3.out).mono ?_
 (case side1 => repeat (first | exact (Kd.C_below HR0.out HB.out) | (with_reducible refine Kd.C_alloc ?_ _) | (with_reducible refine Kd.C_drewN ?_ _) | (with_reducible refine Kd.C_drew ?_)))
 (case side2 => exact HC0.out)
 rintro e w8 ⟨v344, rfl, ho0, hb⟩
 refine ⟨_, rfl, ?_⟩
 have n0_ := Aside0.mk (Kd.R_lower ho0 (below_size (by repeat (first | (with_reducible first | exact HB.out | apply below_alloc | apply pw_below_drewN | apply below_drew1 | refine below_set ?_ GE342.out) | exact HB.out))))
 have n1_ := Aside0.mk (blk_below (g := gb342) (o := .cells #[.int .i64 a1_0, .int .i64 a1_1] 24 (0, 0)) (by (with_reducible repeat (first | refine blk_drewN ?_ _ | refine blk_drew ?_ | refine blk_alloc ?_ _)); exact BK342.out) hb)
 have n2_ := Aside0.mk (below_step (by repeat (first | (with_reducible first | exact HB.out | apply below_alloc | apply pw_below_drewN | apply below_drew1 | refine below_set ?_ GE342.out) | exact HB.out)) hb)
 clear BK342
 clear HB
 have HO345 := n0_
 have BK342 := n1_
 have HB := n2_
 clear n0_ n1_ n2_
 (try clear hb)
 (try clear hb2)
 (try clear hk)
 (try clear hi)
 (try clear ho0)
 refine hK.out _ _ ⟨(blk_cell BK342.out 0).trans rfl, (blk_cell BK342.out 1).trans rfl⟩ (fun hHeld => ?_)
 clear hK K
 refine norm_ (a' := ?_) ?_ ?_
 rotate_left
 ·show Act.put _ (some 6) _ = _
  simp only [Act.put, List.setIfInBounds_toArray, List.set_cons_zero, List.set_cons_succ, i64_w, i32_w]
  rfl
 refine one_ (i := 3) (N := some 8) #[true, true, true, true, false, false] rfl rfl (by kernel_rfl) (by decide) (fun K hK => ?_)
 refine goes_ Try.func34 (by kernel_rfl) rfl #[.agg #[.int .i64 a1_0, .int .i64 a1_1]] (by rfl) rfl rfl (by (try simp only [List.map_toArray, List.map_cons, List.map_nil]); first | done | rfl | (simp only [List.length_drop, List.length_take]; rfl)) ?_
 with_reducible refine (impl_given.calls a1_0 a1_1 t346 t347 _ A4.out).mono ?_
 rintro e w9 ⟨rfl, hb⟩
 refine ⟨_, rfl, ?_⟩
 have n0_ := Aside0.mk (Kd.R_below (by (with_reducible repeat (first | apply Kd.R_alloc | apply Kd.R_drewN | apply Kd.R_drew)); exact HO345.out) hb)
 have n1_ := Aside0.mk (blk_below (g := gb342) (o := .cells #[.int .i64 a1_0, .int .i64 a1_1] 24 (0, 0)) (by (with_reducible repeat (first | refine blk_drewN ?_ _ | refine blk_drew ?_ | refine blk_alloc ?_ _)); exact BK342.out) hb)
 have n2_ := Aside0.mk (below_step (by repeat (first | (with_reducible first | exact HB.out | apply below_alloc | apply pw_below_drewN | apply below_drew1 | refine below_set ?_ GE342.out) | exact HB.out)) hb)
 clear HO345
 clear BK342
 clear HB
 have HO345 := n0_
 have BK342 := n1_
 have HB := n2_
 clear n0_ n1_ n2_
 (try clear hb)
 (try clear hb2)
 (try clear hk)
 (try clear hi)
 obtain ⟨Ao10, co10, eo10⟩ := Kd.R_slice HO345.out
 (first | subst eo10 | (injection eo10 with f1_ f2_ f3_; have f4_ := f1_.symm; have f5_ := f3_.symm; clear f1_ f2_ f3_; subst f4_; subst f5_))
 refine hK.out _ _ ⟨(blk_cell BK342.out 0).trans rfl, (blk_cell BK342.out 1).trans rfl⟩ (fun hHeld => ?_)
 clear hK K
 refine norm_ (a' := ?_) ?_ ?_
 rotate_left
 ·show Act.put _ (some 8) _ = _
  simp only [Act.put, List.setIfInBounds_toArray, List.set_cons_zero, List.set_cons_succ, i64_w, i32_w]
  rfl
 refine one_ (i := 4) (N := some 9) #[true, true, true, true, true, false] rfl rfl (by kernel_rfl) (by decide) (fun K hK => ?_)
 refine goes_ Try.func44 (by kernel_rfl) rfl #[.slice Ao10 t343.length co10, .agg #[.int .i64 t346, .int .i64 t347]] (by rfl) rfl rfl (by (try simp only [List.map_toArray, List.map_cons, List.map_nil]); first | done | rfl | (simp only [List.length_drop, List.length_take]; rfl)) ?_
 with_reducible refine (ranges_Ranges_Present.calls _ _ t343 t346 t347 t348 _ ?side1 ?side2 A5.out).mono ?_
 (case side1 => repeat (first | exact (Kd.R_reads' HO345.out).2.2 | (with_reducible refine Kd.C_alloc ?_ _) | (with_reducible refine Kd.C_drewN ?_ _) | (with_reducible refine Kd.C_drew ?_)))
 (case side2 => exact (Kd.R_reads' HO345.out).2.1)
 rintro e w11 ⟨rfl, hb⟩
 refine ⟨_, rfl, ?_⟩
 have n0_ := Aside0.mk (Kd.R_below (by (with_reducible repeat (first | apply Kd.R_alloc | apply Kd.R_drewN | apply Kd.R_drew)); exact HO345.out) hb)
 have n1_ := Aside0.mk (blk_below (g := gb342) (o := .cells #[.int .i64 a1_0, .int .i64 a1_1] 24 (0, 0)) (by (with_reducible repeat (first | refine blk_drewN ?_ _ | refine blk_drew ?_ | refine blk_alloc ?_ _)); exact BK342.out) hb)
 have n2_ := Aside0.mk (below_step (by repeat (first | (with_reducible first | exact HB.out | apply below_alloc | apply pw_below_drewN | apply below_drew1 | refine below_set ?_ GE342.out) | exact HB.out)) hb)
 clear HO345
 clear BK342
 clear HB
 have HO345 := n0_
 have BK342 := n1_
 have HB := n2_
 clear n0_ n1_ n2_
 (try clear hb)
 (try clear hb2)
 (try clear hk)
 (try clear hi)
 refine hK.out _ _ ⟨(blk_cell BK342.out 0).trans rfl, (blk_cell BK342.out 1).trans rfl⟩ (fun hHeld => ?_)
 clear hK K
 refine norm_ (a' := ?_) ?_ ?_
 rotate_left
 ·show Act.put _ (some 9) _ = _
  simp only [Act.put, List.setIfInBounds_toArray, List.set_cons_zero, List.set_cons_succ, i64_w, i32_w]
  rfl
 refine pure_ (i := 5) (N := some 4) (v := ?_) (a' := ?_) #[true, true, true, true, true, true] rfl rfl (by kernel_rfl) (fun _ _ _ h => h) (Or.inl ⟨by rfl, ?_⟩) ?_ ?_
 rotate_left
 ·intro w'
  go_simp
  with_reducible rfl
 rotate_left
 ·simp only [Act.put, List.setIfInBounds_toArray, List.set_cons_zero, List.set_cons_succ, i64_w, i32_w]
  rfl
 refine done_ (by kernel_rfl) ?_
 try go_wp2
 go_ret
 exact ⟨by first | rfl | (simp [errW_none, errW_some] <;> rfl) | (simp [*, errW_none, errW_some] <;> rfl), by repeat (first | (with_reducible first | exact HB.out | apply below_alloc | apply pw_below_drewN | apply below_drew1 | refine below_set ?_ GE342.out) | exact HB.out)⟩

end Go.Proofs.Ytmkhkkfliecfdaa.PT
