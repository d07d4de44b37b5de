-- Written by a program of this session. -- slim
import Derived.Test.YtmkhkkfliecfdaaPTx20
namespace Go.Proofs.Ytmkhkkfliecfdaa.PT
open Go.RowKit Go.Proofs.YtmkhkkfliecfdaaW.PrintWords Go.Proofs.YtmkhkkfliecfdaaW.PrintLast Go.Proofs.Ytmkhkkfliecfdaa.Given Go.Proofs.Ytmkhkkfliecfdaa.Mm
attribute [local go_sem] mx_go mn_go
set_option linter.unusedVariables false
set_option linter.unusedSimpArgs false

attribute [local go_sem high] idx70
/-! ### impl_RangeEmpty: function 22 -/
def impl_RangeEmpty.f (a0_0 : Int) (a0_1 : Int) : Option (Bool) := (impl_given.f a0_0 a0_1).bind fun bt313 => ((ranges_Range_IsEmpty.f bt313.1 bt313.2).bind fun t315 => (some t315))
set_option maxHeartbeats 8000000 in
set_option maxRecDepth 100000 in
theorem impl_RangeEmpty.calls (a0_0 : Int) (a0_1 : Int) (r : Bool) (w : World) (h : impl_RangeEmpty.f a0_0 a0_1 = some r) :
  Calls Try.prog 22 #[.agg #[.int .i64 a0_0, .int .i64 a0_1]] w fun e w' => e = .returned (.bool r) ∧ Below w.heap.size w w' := by
 have hu24 := Try.underlying24
 have HB := Aside0.mk (Below.refl w.heap.size w)
 have H : ((impl_given.f a0_0 a0_1).bind fun bt313 => ((ranges_Range_IsEmpty.f bt313.1 bt313.2).bind fun t315 => (some t315))) = some r := h
 clear h
 replace H := Option.bind_eq_some_iff.mp H
 obtain ⟨⟨t313, t314⟩, A20, H⟩ := H
 replace H : ((ranges_Range_IsEmpty.f t313 t314).bind fun t315 => (some t315)) = some r := H
 have A2 := Aside0.mk A20
 clear A20
 replace H := Option.bind_eq_some_iff.mp H
 obtain ⟨t315, A30, H⟩ := H
 replace H : (some t315) = some r := H
 have A3 := Aside0.mk A30
 clear A30
 obtain rfl := Option.some.inj H
 go_enter Try.func22, Try.ntmps22
 go_wp2_with (first | ((with_reducible refine gate_dst (N := 1) rfl ?_); refine box_event ?hg (N := 1) ?hd (cs := #[.int .i64 a0_0, .int .i64 a0_1]) (t := 24) ?hr ?_; (case hd => rfl); (case hg => rfl); (case hr => first | (go_simp; done) | (go_simp; rfl)); intro gb312 hg w4 hbox hb; have n0_ := Aside0.mk (below_step (by repeat (first | (with_reducible first | exact HB.out | apply below_alloc | apply pw_below_drewN | apply below_drew1) | exact HB.out)) hb); have n1_ := Aside0.mk (hbox); have n2_ := Aside0.mk ((by rw [hg]; exact (below_size (by repeat (first | (with_reducible first | exact HB.out | apply below_alloc | apply pw_below_drewN | apply below_drew1) | exact HB.out))) : w.heap.size ≤ gb312)); have n3_ := Aside0.mk ((by rw [hg]; exact (below_size (by repeat (first | (with_reducible first | exact HB.out | apply below_alloc | apply pw_below_drewN | apply below_drew1) | exact HB.out))) : w.heap.size ≤ gb312)); clear HB; have HB := n0_; have BK312 := n1_; have GW312 := n2_; have GE312 := n3_; clear n0_ n1_ n2_ n3_; clear hb hbox hg; have hcz5_0 : w4.cell? ⟨gb312, 0, none⟩ = some (.int .i64 a0_0) := (blk_cell BK312.out 0).trans rfl; have hcz5_1 : w4.cell? ⟨gb312, 1, none⟩ = some (.int .i64 a0_1) := (blk_cell BK312.out 1).trans rfl; have hfz5_0 := blk_frozen BK312.out 0; have hfz5_1 := blk_frozen BK312.out 1) | ((with_reducible refine gate_dst (N := 4) rfl ?_); refine goesL_ (some 4) rfl rfl Try.func34 (by kernel_rfl) rfl #[.agg #[.int .i64 a0_0, .int .i64 a0_1]] rfl (by (try simp only [List.map_toArray, List.map_cons, List.map_nil]); first | done | rfl | (simp only [List.length_drop, List.length_take]; rfl)) ?_; (with_reducible refine (impl_given.calls a0_0 a0_1 t313 t314 _ A2.out).mono ?_); rintro e w6 ⟨rfl, hb⟩; refine ⟨_, rfl, ?_⟩; have n0_ := Aside0.mk (blk_below (g := gb312) (o := .cells #[.int .i64 a0_0, .int .i64 a0_1] 24 (0, 0)) (by (with_reducible repeat (first | refine blk_drewN ?_ _ | refine blk_drew ?_ | refine blk_alloc ?_ _)); exact BK312.out) hb); have n1_ := Aside0.mk (below_step (by repeat (first | (with_reducible first | exact HB.out | apply below_alloc | apply pw_below_drewN | apply below_drew1 | refine below_set ?_ GE312.out) | exact HB.out)) hb); clear BK312; clear HB; have BK312 := n0_; have HB := n1_; clear n0_ n1_; (try clear hb); (try clear hb2); (try clear hk); (try clear hi)) | ((with_reducible refine gate_dst (N := 5) rfl ?_); refine goesL_ (some 5) rfl rfl Try.func43 (by kernel_rfl) rfl #[.agg #[.int .i64 t313, .int .i64 t314]] rfl (by (try simp only [List.map_toArray, List.map_cons, List.map_nil]); first | done | rfl | (simp only [List.length_drop, List.length_take]; rfl)) ?_; (with_reducible refine (ranges_Range_IsEmpty.calls t313 t314 t315 _ A3.out).mono ?_); rintro e w7 ⟨rfl, hb⟩; refine ⟨_, rfl, ?_⟩; have n0_ := Aside0.mk (blk_below (g := gb312) (o := .cells #[.int .i64 a0_0, .int .i64 a0_1] 24 (0, 0)) (by (with_reducible repeat (first | refine blk_drewN ?_ _ | refine blk_drew ?_ | refine blk_alloc ?_ _)); exact BK312.out) hb); have n1_ := Aside0.mk (below_step (by repeat (first | (with_reducible first | exact HB.out | apply below_alloc | apply pw_below_drewN | apply below_drew1 | refine below_set ?_ GE312.out) | exact HB.out)) hb); clear BK312; clear HB; have BK312 := n0_; have HB := n1_; clear n0_ n1_; (try clear hb); (try clear hb2); (try clear hk); (try clear hi)))
 go_ret
 exact ⟨by first | rfl | (simp [errW_none, errW_some] <;> rfl) | (simp [*, errW_none, errW_some] <;> rfl), by repeat (first | (with_reducible first | exact HB.out | apply below_alloc | apply pw_below_drewN | apply below_drew1 | refine below_set ?_ GE312.out) | exact HB.out)⟩

end Go.Proofs.Ytmkhkkfliecfdaa.PT
