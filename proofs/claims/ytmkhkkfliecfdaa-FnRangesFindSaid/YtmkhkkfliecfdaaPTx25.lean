-- Written by a program of this session. -- slim
import Derived.Test.YtmkhkkfliecfdaaPTx20
import Derived.Test.YtmkhkkfliecfdaaPTx21
import Derived.Test.YtmkhkkfliecfdaaPTx24
namespace Go.Proofs.Ytmkhkkfliecfdaa.PT
open Go.RowKit Go.Proofs.YtmkhkkfliecfdaaW.PrintWords Go.Proofs.YtmkhkkfliecfdaaW.PrintLast Go.Proofs.Ytmkhkkfliecfdaa.Given Go.Proofs.Ytmkhkkfliecfdaa.Mm
attribute [local go_sem] mx_go mn_go
set_option linter.unusedVariables false
set_option linter.unusedSimpArgs false

attribute [local go_sem high] idx70
attribute [local go_sem high] eqA24
/-! ### laws_FnRangesFind: function 3 -/
def laws_FnRangesFind.j0 : Nat → List (S24) → Bool → Int → Int → Option (Bool)
 | 0, _, _, _, _ => none
 | k + 1, x0, x20, x275000, x275001 => if x20 = true then (some true) else ((laws_rangeAwake.f k).bind fun t277 => (if t277 = true then ((impl_RangesFind.f x0 x275000 x275001).bind fun bt278 => (if x275001 = 0 then (if (bt278.1 == x275000 && (bt278.2.1 == x275001)) = true then (if (bt278.2.2.1 == 0 && (bt278.2.2.2.1 == 0)) = true then (some (!bt278.2.2.2.2)) else (some false)) else (some false)) else ((spec_RangeParts.f k x0 x275000 x275001).bind fun t285 => (if 0 < (t285.length : Int) then (if (bt278.1 == ((rd_T31 t285 0).f0.f0) && (bt278.2.1 == ((rd_T31 t285 0).f0.f1))) = true then (if (bt278.2.2.2.2 == ((rd_T31 t285 0).f1)) = true then (if (wrap64 (x275001 - ((rd_T31 t285 0).f0.f1))) = 0 then (if bt278.2.2.2.1 = 0 then (some true) else (if (wrap64 (x275001 - ((rd_T31 t285 0).f0.f1))) > 0 then (some (bt278.2.2.1 == (wrap64 (((rd_T31 t285 0).f0.f0) + ((rd_T31 t285 0).f0.f1))) && (bt278.2.2.2.1 == (wrap64 (x275001 - ((rd_T31 t285 0).f0.f1)))))) else (some false))) else (if (wrap64 (x275001 - ((rd_T31 t285 0).f0.f1))) > 0 then (some (bt278.2.2.1 == (wrap64 (((rd_T31 t285 0).f0.f0) + ((rd_T31 t285 0).f0.f1))) && (bt278.2.2.2.1 == (wrap64 (x275001 - ((rd_T31 t285 0).f0.f1)))))) else (some false))) else (some false)) else (some false)) else (none))))) else (some false)))
def laws_FnRangesFind.f (k : Nat) (l0 : List (S24)) (a1_0 : Int) (a1_1 : Int) : Option (Bool) := if (l0.length : Int) > 2147483647 then (some true) else ((spec_RangesIn.f k l0).bind fun t275 => (if t275 = true then ((spec_RangeAsk.f a1_0 a1_1).bind fun t276 => (laws_FnRangesFind.j0 k l0 (!t276) a1_0 a1_1)) else (laws_FnRangesFind.j0 k l0 true a1_0 a1_1)))
theorem laws_FnRangesFind.mono_l : ∀ k, (∀ y0 y1 y2 y3, LeO (laws_FnRangesFind.j0 k y0 y1 y2 y3) (laws_FnRangesFind.j0 (k + 1) y0 y1 y2 y3))
 | 0 => fun _ _ _ _ r h => by simp [laws_FnRangesFind.j0] at h
 | k + 1 => by
  have ih0 := laws_FnRangesFind.mono_l k
  ·intro y0 y1 y2 y3
   unfold laws_FnRangesFind.j0
   repeat' first
   | (with_reducible exact ih0 _ _ _ _)
   | (with_reducible exact laws_rangeAwake.mono _)
   | (with_reducible exact spec_RangeParts.mono _ _ _ _)
   | (with_reducible exact spec_RangesIn.mono _ _)
   | (with_reducible exact LeO.refl _)
   | (with_reducible exact LeO.none _)
   | (with_reducible refine LeO.ite ?_ ?_)
   | (with_reducible refine LeO.bind ?_ (fun _ => ?_))
   | exact ih0 _ _ _ _
   | exact laws_rangeAwake.mono _
   | exact spec_RangeParts.mono _ _ _ _
   | exact spec_RangesIn.mono _ _
   | exact LeO.none _
   | refine LeO.ite ?_ ?_
   | refine LeO.bind ?_ (fun _ => ?_)
theorem laws_FnRangesFind.mono : ∀ a0 a1 a2 k, LeO (laws_FnRangesFind.f k a0 a1 a2) (laws_FnRangesFind.f (k + 1) a0 a1 a2) := by
 intro a0 a1 a2 k
 have ih0 := laws_FnRangesFind.mono_l k
 unfold laws_FnRangesFind.f
 repeat' first
   | (with_reducible exact ih0 _ _ _ _)
   | (with_reducible exact laws_rangeAwake.mono _)
   | (with_reducible exact spec_RangeParts.mono _ _ _ _)
   | (with_reducible exact spec_RangesIn.mono _ _)
   | (with_reducible exact LeO.refl _)
   | (with_reducible exact LeO.none _)
   | (with_reducible refine LeO.ite ?_ ?_)
   | (with_reducible refine LeO.bind ?_ (fun _ => ?_))
   | exact ih0 _ _ _ _
   | exact laws_rangeAwake.mono _
   | exact spec_RangeParts.mono _ _ _ _
   | exact spec_RangesIn.mono _ _
   | exact LeO.none _
   | refine LeO.ite ?_ ?_
   | refine LeO.bind ?_ (fun _ => ?_)
set_option maxHeartbeats 8000000 in
set_option maxRecDepth 100000 in
theorem laws_FnRangesFind.calls (k : Nat) (A0 : Option Addr) (c0 : Nat) (l0 : List (S24)) (a1_0 : Int) (a1_1 : Int) (r : Bool) (w : World) (hr0 : Kd.C k24 w A0 l0.length l0) (hc0 : l0.length ≤ c0) (h : laws_FnRangesFind.f k l0 a1_0 a1_1 = some r) :
  Calls Try.prog 3 #[.slice A0 l0.length c0, .agg #[.int .i64 a1_0, .int .i64 a1_1]] w fun e w' => e = .returned (.bool r) ∧ Below w.heap.size w w' := by
 have hu24 := Try.underlying24
 have hu31 := Try.underlying31
 have HR0 := Aside0.mk hr0
 have HC0 := Aside0.mk hc0
 clear hr0 hc0
 have HB := Aside0.mk (Below.refl w.heap.size w)
 have H : (if (l0.length : Int) > 2147483647 then (some true) else ((spec_RangesIn.f k l0).bind fun t275 => (if t275 = true then ((spec_RangeAsk.f a1_0 a1_1).bind fun t276 => (laws_FnRangesFind.j0 k l0 (!t276) a1_0 a1_1)) else (laws_FnRangesFind.j0 k l0 true a1_0 a1_1)))) = some r := h
 clear h
 by_cases c3 : (l0.length : Int) > 2147483647
 ·rw [if_pos c3] at H
  have c3b0 : decide (2147483647 < (l0.length : Int)) = true := decide_eq_true c3
  have c3b1 : decide (2147483647 < l0.length) = true := decide_eq_true (by omega)
  clear c3
  obtain rfl := Option.some.inj H
  go_enter Try.func3, Try.ntmps3
  go_wp2_with (first | ((with_reducible refine gate_dst (N := 3) rfl ?_); refine box_event ?hg (N := 3) ?hd (cs := #[.int .i64 a1_0, .int .i64 a1_1]) (t := 24) ?hr ?_; (case hd => rfl); (case hg => rfl); (case hr => first | (go_simp; done) | (go_simp; rfl)); intro gb274 hg w4 hbox hb; have n0_ := Aside0.mk (below_step (by repeat (first | (with_reducible first | exact HB.out | apply below_alloc | apply pw_below_drewN | apply below_drew1) | exact HB.out)) hb); have n1_ := Aside0.mk (hbox); have n2_ := Aside0.mk ((by rw [hg]; exact (below_size (by repeat (first | (with_reducible first | exact HB.out | apply below_alloc | apply pw_below_drewN | apply below_drew1) | exact HB.out))) : w.heap.size ≤ gb274)); have n3_ := Aside0.mk ((by rw [hg]; exact (below_size (by repeat (first | (with_reducible first | exact HB.out | apply below_alloc | apply pw_below_drewN | apply below_drew1) | exact HB.out))) : w.heap.size ≤ gb274)); clear HB; have HB := n0_; have BK274 := n1_; have GW274 := n2_; have GE274 := n3_; clear n0_ n1_ n2_ n3_; clear hb hbox hg))
  go_ret
  exact ⟨by first | rfl | (simp [errW_none, errW_some] <;> rfl) | (simp [*, errW_none, errW_some] <;> rfl), by repeat (first | (with_reducible first | exact HB.out | apply below_alloc | apply pw_below_drewN | apply below_drew1 | refine below_set ?_ GE274.out) | exact HB.out)⟩
 ·rw [if_neg c3] at H
  have c3b0 : decide (2147483647 < (l0.length : Int)) = false := decide_eq_false c3
  have c3b1 : decide (2147483647 < l0.length) = false := decide_eq_false (by omega)
  clear c3
  have HC5 := Aside0.mk H
  clear H
  go_enter Try.func3, Try.ntmps3
  go_upto_region 3 with (first | ((with_reducible refine gate_dst (N := 3) rfl ?_); refine box_event ?hg (N := 3) ?hd (cs := #[.int .i64 a1_0, .int .i64 a1_1]) (t := 24) ?hr ?_; (case hd => rfl); (case hg => rfl); (case hr => first | (go_simp; done) | (go_simp; rfl)); intro gb274 hg w6 hbox hb; have n0_ := Aside0.mk (below_step (by repeat (first | (with_reducible first | exact HB.out | apply below_alloc | apply pw_below_drewN | apply below_drew1) | exact HB.out)) hb); have n1_ := Aside0.mk (hbox); have n2_ := Aside0.mk ((by rw [hg]; exact (below_size (by repeat (first | (with_reducible first | exact HB.out | apply below_alloc | apply pw_below_drewN | apply below_drew1) | exact HB.out))) : w.heap.size ≤ gb274)); have n3_ := Aside0.mk ((by rw [hg]; exact (below_size (by repeat (first | (with_reducible first | exact HB.out | apply below_alloc | apply pw_below_drewN | apply below_drew1) | exact HB.out))) : w.heap.size ≤ gb274)); clear HB; have HB := n0_; have BK274 := n1_; have GW274 := n2_; have GE274 := n3_; clear n0_ n1_ n2_ n3_; clear hb hbox hg))
  (try simp only [Act.put, List.setIfInBounds_toArray, List.set_cons_zero, List.set_cons_succ])
  go_cut [20] (fun v20 wc => ∃ (kq : Nat) (x20_4 : Bool), v20 = .bool x20_4 ∧ Aside0 (laws_FnRangesFind.j0 kq l0 x20_4 a1_0 a1_1 = some r) ∧ Aside0 (kq ≤ k) ∧ Aside0 (wc.heap[gb274]? = some (.cells #[.int .i64 a1_0, .int .i64 a1_1] 24 (0, 0))) ∧ Aside0 (Below w.heap.size w wc))
  case first =>
   have H := HC5.out
   clear HC5
   replace H := Option.bind_eq_some_iff.mp H
   obtain ⟨t275, A70, H⟩ := H
   replace H : (if t275 = true then ((spec_RangeAsk.f a1_0 a1_1).bind fun t276 => (laws_FnRangesFind.j0 k l0 (!t276) a1_0 a1_1)) else (laws_FnRangesFind.j0 k l0 true a1_0 a1_1)) = some r := H
   have A7 := Aside0.mk A70
   clear A70
   by_cases c8 : t275 = true
   ·subst c8
    have H1 : ((spec_RangeAsk.f a1_0 a1_1).bind fun t276 => (laws_FnRangesFind.j0 k l0 (!t276) a1_0 a1_1)) = some r := by rw [if_pos rfl] at H; exact H
    clear H
    have H := H1
    clear H1
    replace H := Option.bind_eq_some_iff.mp H
    obtain ⟨t276, A90, H⟩ := H
    replace H : (laws_FnRangesFind.j0 k l0 (!t276) a1_0 a1_1) = some r := H
    have A9 := Aside0.mk A90
    clear A90
    have H' := Aside0.mk H
    clear H
    go_wp2_with (first | ((with_reducible refine gate_dst (N := 14) rfl ?_); refine goesL_ (some 14) rfl rfl Try.func11 (by kernel_rfl) rfl #[.slice A0 l0.length c0] rfl (by (try simp only [List.map_toArray, List.map_cons, List.map_nil]); first | done | rfl | (simp only [List.length_drop, List.length_take]; rfl)) ?_; (with_reducible refine (spec_RangesIn.calls k _ _ l0 true _ ?side1 ?side2 A7.out).mono ?_); (case side1 => repeat (first | exact (Kd.C_below HR0.out HB.out) | (with_reducible refine Kd.C_alloc ?_ _) | (with_reducible refine Kd.C_drewN ?_ _) | (with_reducible refine Kd.C_drew ?_))); (case side2 => exact HC0.out); rintro e w10 ⟨rfl, hb⟩; refine ⟨_, rfl, ?_⟩; have n0_ := Aside0.mk (blk_below (g := gb274) (o := .cells #[.int .i64 a1_0, .int .i64 a1_1] 24 (0, 0)) (by (with_reducible repeat (first | refine blk_drewN ?_ _ | refine blk_drew ?_ | refine blk_alloc ?_ _)); exact BK274.out) hb); have n1_ := Aside0.mk (below_step (by repeat (first | (with_reducible first | exact HB.out | apply below_alloc | apply pw_below_drewN | apply below_drew1 | refine below_set ?_ GE274.out) | exact HB.out)) hb); clear BK274; clear HB; have BK274 := n0_; have HB := n1_; clear n0_ n1_; (try clear hb); (try clear hb2); (try clear hk); (try clear hi); have hcz11_0 : w10.cell? ⟨gb274, 0, none⟩ = some (.int .i64 a1_0) := (blk_cell BK274.out 0).trans rfl; have hcz11_1 : w10.cell? ⟨gb274, 1, none⟩ = some (.int .i64 a1_1) := (blk_cell BK274.out 1).trans rfl; have hfz11_0 := blk_frozen BK274.out 0; have hfz11_1 := blk_frozen BK274.out 1) | (go_at_call 12; (with_reducible refine (spec_RangeAsk.calls a1_0 a1_1 t276 _ A9.out).mono ?_); rintro e w12 ⟨rfl, hb⟩; have n0_ := Aside0.mk (blk_below (g := gb274) (o := .cells #[.int .i64 a1_0, .int .i64 a1_1] 24 (0, 0)) (by (with_reducible repeat (first | refine blk_drewN ?_ _ | refine blk_drew ?_ | refine blk_alloc ?_ _)); exact BK274.out) hb); have n1_ := Aside0.mk (below_step (by repeat (first | (with_reducible first | exact HB.out | apply below_alloc | apply pw_below_drewN | apply below_drew1 | refine below_set ?_ GE274.out) | exact HB.out)) hb); clear BK274; clear HB; have BK274 := n0_; have HB := n1_; clear n0_ n1_; (try clear hb); (try clear hb2); (try clear hk); (try clear hi)))
    go_meet
    case rel => exact ⟨_, (!t276), (by first | rfl | (simp; done) | (simp [*]; done)), H', ⟨by first | omega | exact Nat.le_refl _⟩, ⟨by (with_reducible repeat (first | refine blk_drewN ?_ _ | refine blk_drew ?_ | refine blk_alloc ?_ _)); exact BK274.out⟩, ⟨by repeat (first | (with_reducible first | exact HB.out | apply below_alloc | apply pw_below_drewN | apply below_drew1 | refine below_set ?_ GE274.out) | exact HB.out)⟩⟩
   ·replace c8 := Bool.eq_false_iff.mpr c8
    subst c8
    have H1 : (laws_FnRangesFind.j0 k l0 true a1_0 a1_1) = some r := by rw [if_neg (show ¬ (false = true) by decide)] at H; exact H
    clear H
    have H := H1
    clear H1
    have H' := Aside0.mk H
    clear H
    go_wp2_with (first | ((with_reducible refine gate_dst (N := 14) rfl ?_); refine goesL_ (some 14) rfl rfl Try.func11 (by kernel_rfl) rfl #[.slice A0 l0.length c0] rfl (by (try simp only [List.map_toArray, List.map_cons, List.map_nil]); first | done | rfl | (simp only [List.length_drop, List.length_take]; rfl)) ?_; (with_reducible refine (spec_RangesIn.calls k _ _ l0 false _ ?side1 ?side2 A7.out).mono ?_); (case side1 => repeat (first | exact (Kd.C_below HR0.out HB.out) | (with_reducible refine Kd.C_alloc ?_ _) | (with_reducible refine Kd.C_drewN ?_ _) | (with_reducible refine Kd.C_drew ?_))); (case side2 => exact HC0.out); rintro e w13 ⟨rfl, hb⟩; refine ⟨_, rfl, ?_⟩; have n0_ := Aside0.mk (blk_below (g := gb274) (o := .cells #[.int .i64 a1_0, .int .i64 a1_1] 24 (0, 0)) (by (with_reducible repeat (first | refine blk_drewN ?_ _ | refine blk_drew ?_ | refine blk_alloc ?_ _)); exact BK274.out) hb); have n1_ := Aside0.mk (below_step (by repeat (first | (with_reducible first | exact HB.out | apply below_alloc | apply pw_below_drewN | apply below_drew1 | refine below_set ?_ GE274.out) | exact HB.out)) hb); clear BK274; clear HB; have BK274 := n0_; have HB := n1_; clear n0_ n1_; (try clear hb); (try clear hb2); (try clear hk); (try clear hi)))
    go_meet
    case rel => exact ⟨_, (true), (by first | rfl | (simp; done) | (simp [*]; done)), H', ⟨by first | omega | exact Nat.le_refl _⟩, ⟨by (with_reducible repeat (first | refine blk_drewN ?_ _ | refine blk_drew ?_ | refine blk_alloc ?_ _)); exact BK274.out⟩, ⟨by repeat (first | (with_reducible first | exact HB.out | apply below_alloc | apply pw_below_drewN | apply below_drew1 | refine below_set ?_ GE274.out) | exact HB.out)⟩⟩
  case rest =>
   clear HC5
   try clear c1
   try clear p2
   try clear c3
   try clear c3b0
   try clear c3b1
   try clear c8
   try clear c11
   try clear hcz11_0
   try clear hcz11_1
   try clear hfz11_0
   try clear hfz11_1
   obtain ⟨kq, x20_4, rfl, HA, HJ4, BK274, HB⟩ := hcut
   cases kq with
   | zero => exact absurd HA.out (by simp [laws_FnRangesFind.j0])
   | succ kj4 =>
    have H := HA.out
    clear HA
    simp only [laws_FnRangesFind.j0] at H
    by_cases c14 : x20_4 = true
    ·subst c14
     have H1 : (some true) = some r := by rw [if_pos rfl] at H; exact H
     clear H
     have H := H1
     clear H1
     obtain rfl := Option.some.inj H
     go_wp2
     go_ret
     exact ⟨by first | rfl | (simp [errW_none, errW_some] <;> rfl) | (simp [*, errW_none, errW_some] <;> rfl), by repeat (first | (with_reducible first | exact HB.out | apply below_alloc | apply pw_below_drewN | apply below_drew1 | refine below_set ?_ GE274.out) | exact HB.out)⟩
    ·replace c14 := Bool.eq_false_iff.mpr c14
     subst c14
     have H1 : ((laws_rangeAwake.f kj4).bind fun t277 => (if t277 = true then ((impl_RangesFind.f l0 a1_0 a1_1).bind fun bt278 => (if a1_1 = 0 then (if (bt278.1 == a1_0 && (bt278.2.1 == a1_1)) = true then (if (bt278.2.2.1 == 0 && (bt278.2.2.2.1 == 0)) = true then (some (!bt278.2.2.2.2)) else (some false)) else (some false)) else ((spec_RangeParts.f kj4 l0 a1_0 a1_1).bind fun t285 => (if 0 < (t285.length : Int) then (if (bt278.1 == ((rd_T31 t285 0).f0.f0) && (bt278.2.1 == ((rd_T31 t285 0).f0.f1))) = true then (if (bt278.2.2.2.2 == ((rd_T31 t285 0).f1)) = true then (if (wrap64 (a1_1 - ((rd_T31 t285 0).f0.f1))) = 0 then (if bt278.2.2.2.1 = 0 then (some true) else (if (wrap64 (a1_1 - ((rd_T31 t285 0).f0.f1))) > 0 then (some (bt278.2.2.1 == (wrap64 (((rd_T31 t285 0).f0.f0) + ((rd_T31 t285 0).f0.f1))) && (bt278.2.2.2.1 == (wrap64 (a1_1 - ((rd_T31 t285 0).f0.f1)))))) else (some false))) else (if (wrap64 (a1_1 - ((rd_T31 t285 0).f0.f1))) > 0 then (some (bt278.2.2.1 == (wrap64 (((rd_T31 t285 0).f0.f0) + ((rd_T31 t285 0).f0.f1))) && (bt278.2.2.2.1 == (wrap64 (a1_1 - ((rd_T31 t285 0).f0.f1)))))) else (some false))) else (some false)) else (some false)) else (none))))) else (some false))) = some r := by rw [if_neg (show ¬ (false = true) by decide)] at H; exact H
     clear H
     have H := H1
     clear H1
     replace H := Option.bind_eq_some_iff.mp H
     obtain ⟨t277, A150, H⟩ := H
     replace H : (if t277 = true then ((impl_RangesFind.f l0 a1_0 a1_1).bind fun bt278 => (if a1_1 = 0 then (if (bt278.1 == a1_0 && (bt278.2.1 == a1_1)) = true then (if (bt278.2.2.1 == 0 && (bt278.2.2.2.1 == 0)) = true then (some (!bt278.2.2.2.2)) else (some false)) else (some false)) else ((spec_RangeParts.f kj4 l0 a1_0 a1_1).bind fun t285 => (if 0 < (t285.length : Int) then (if (bt278.1 == ((rd_T31 t285 0).f0.f0) && (bt278.2.1 == ((rd_T31 t285 0).f0.f1))) = true then (if (bt278.2.2.2.2 == ((rd_T31 t285 0).f1)) = true then (if (wrap64 (a1_1 - ((rd_T31 t285 0).f0.f1))) = 0 then (if bt278.2.2.2.1 = 0 then (some true) else (if (wrap64 (a1_1 - ((rd_T31 t285 0).f0.f1))) > 0 then (some (bt278.2.2.1 == (wrap64 (((rd_T31 t285 0).f0.f0) + ((rd_T31 t285 0).f0.f1))) && (bt278.2.2.2.1 == (wrap64 (a1_1 - ((rd_T31 t285 0).f0.f1)))))) else (some false))) else (if (wrap64 (a1_1 - ((rd_T31 t285 0).f0.f1))) > 0 then (some (bt278.2.2.1 == (wrap64 (((rd_T31 t285 0).f0.f0) + ((rd_T31 t285 0).f0.f1))) && (bt278.2.2.2.1 == (wrap64 (a1_1 - ((rd_T31 t285 0).f0.f1)))))) else (some false))) else (some false)) else (some false)) else (none))))) else (some false)) = some r := H
     have A15 := Aside0.mk A150
     clear A150
     by_cases c16 : t277 = true
     ·subst c16
      have H1 : ((impl_RangesFind.f l0 a1_0 a1_1).bind fun bt278 => (if a1_1 = 0 then (if (bt278.1 == a1_0 && (bt278.2.1 == a1_1)) = true then (if (bt278.2.2.1 == 0 && (bt278.2.2.2.1 == 0)) = true then (some (!bt278.2.2.2.2)) else (some false)) else (some false)) else ((spec_RangeParts.f kj4 l0 a1_0 a1_1).bind fun t285 => (if 0 < (t285.length : Int) then (if (bt278.1 == ((rd_T31 t285 0).f0.f0) && (bt278.2.1 == ((rd_T31 t285 0).f0.f1))) = true then (if (bt278.2.2.2.2 == ((rd_T31 t285 0).f1)) = true then (if (wrap64 (a1_1 - ((rd_T31 t285 0).f0.f1))) = 0 then (if bt278.2.2.2.1 = 0 then (some true) else (if (wrap64 (a1_1 - ((rd_T31 t285 0).f0.f1))) > 0 then (some (bt278.2.2.1 == (wrap64 (((rd_T31 t285 0).f0.f0) + ((rd_T31 t285 0).f0.f1))) && (bt278.2.2.2.1 == (wrap64 (a1_1 - ((rd_T31 t285 0).f0.f1)))))) else (some false))) else (if (wrap64 (a1_1 - ((rd_T31 t285 0).f0.f1))) > 0 then (some (bt278.2.2.1 == (wrap64 (((rd_T31 t285 0).f0.f0) + ((rd_T31 t285 0).f0.f1))) && (bt278.2.2.2.1 == (wrap64 (a1_1 - ((rd_T31 t285 0).f0.f1)))))) else (some false))) else (some false)) else (some false)) else (none))))) = some r := by rw [if_pos rfl] at H; exact H
      clear H
      have H := H1
      clear H1
      replace H := Option.bind_eq_some_iff.mp H
      obtain ⟨⟨t278, t279, t280, t281, t282⟩, A170, H⟩ := H
      replace H : (if a1_1 = 0 then (if (t278 == a1_0 && (t279 == a1_1)) = true then (if (t280 == 0 && (t281 == 0)) = true then (some (!t282)) else (some false)) else (some false)) else ((spec_RangeParts.f kj4 l0 a1_0 a1_1).bind fun t285 => (if 0 < (t285.length : Int) then (if (t278 == ((rd_T31 t285 0).f0.f0) && (t279 == ((rd_T31 t285 0).f0.f1))) = true then (if (t282 == ((rd_T31 t285 0).f1)) = true then (if (wrap64 (a1_1 - ((rd_T31 t285 0).f0.f1))) = 0 then (if t281 = 0 then (some true) else (if (wrap64 (a1_1 - ((rd_T31 t285 0).f0.f1))) > 0 then (some (t280 == (wrap64 (((rd_T31 t285 0).f0.f0) + ((rd_T31 t285 0).f0.f1))) && (t281 == (wrap64 (a1_1 - ((rd_T31 t285 0).f0.f1)))))) else (some false))) else (if (wrap64 (a1_1 - ((rd_T31 t285 0).f0.f1))) > 0 then (some (t280 == (wrap64 (((rd_T31 t285 0).f0.f0) + ((rd_T31 t285 0).f0.f1))) && (t281 == (wrap64 (a1_1 - ((rd_T31 t285 0).f0.f1)))))) else (some false))) else (some false)) else (some false)) else (none)))) = some r := H
      have A17 := Aside0.mk A170
      clear A170
      go_upto_region 8 with (first | ((with_reducible refine gate_dst (N := 21) rfl ?_); refine goesL_ (some 21) rfl rfl Try.func13 (by kernel_rfl) rfl #[] rfl (by (try simp only [List.map_toArray, List.map_cons, List.map_nil]); first | done | rfl | (simp only [List.length_drop, List.length_take]; rfl)) ?_; (with_reducible refine (laws_rangeAwake.calls kj4  true _ A15.out).mono ?_); rintro e w103 ⟨rfl, hb⟩; refine ⟨_, rfl, ?_⟩; have n0_ := Aside0.mk (blk_below (g := gb274) (o := .cells #[.int .i64 a1_0, .int .i64 a1_1] 24 (0, 0)) (by (with_reducible repeat (first | refine blk_drewN ?_ _ | refine blk_drew ?_ | refine blk_alloc ?_ _)); exact BK274.out) hb); have n1_ := Aside0.mk (below_step (by repeat (first | (with_reducible first | exact HB.out | apply below_alloc | apply pw_below_drewN | apply below_drew1 | refine below_set ?_ GE274.out) | exact HB.out)) hb); clear BK274; clear HB; have BK274 := n0_; have HB := n1_; clear n0_ n1_; (try clear hb); (try clear hb2); (try clear hk); (try clear hi); have hcz104_0 : w103.cell? ⟨gb274, 0, none⟩ = some (.int .i64 a1_0) := (blk_cell BK274.out 0).trans rfl; have hcz104_1 : w103.cell? ⟨gb274, 1, none⟩ = some (.int .i64 a1_1) := (blk_cell BK274.out 1).trans rfl; have hfz104_0 := blk_frozen BK274.out 0; have hfz104_1 := blk_frozen BK274.out 1) | ((with_reducible refine gate_dst (N := 26) rfl ?_); refine goesL_ (some 26) rfl rfl Try.func14 (by kernel_rfl) rfl #[.slice A0 l0.length c0, .agg #[.int .i64 a1_0, .int .i64 a1_1]] rfl (by (try simp only [List.map_toArray, List.map_cons, List.map_nil]); first | done | rfl | (simp only [List.length_drop, List.length_take]; rfl)) ?_; (with_reducible refine (impl_RangesFind.calls _ _ l0 a1_0 a1_1 t278 t279 t280 t281 t282 _ ?side1 ?side2 A17.out).mono ?_); (case side1 => repeat (first | exact (Kd.C_below HR0.out HB.out) | (with_reducible refine Kd.C_alloc ?_ _) | (with_reducible refine Kd.C_drewN ?_ _) | (with_reducible refine Kd.C_drew ?_))); (case side2 => exact HC0.out); rintro e w105 ⟨rfl, hb⟩; refine ⟨_, rfl, ?_⟩; have n0_ := Aside0.mk (blk_below (g := gb274) (o := .cells #[.int .i64 a1_0, .int .i64 a1_1] 24 (0, 0)) (by (with_reducible repeat (first | refine blk_drewN ?_ _ | refine blk_drew ?_ | refine blk_alloc ?_ _)); exact BK274.out) hb); have n1_ := Aside0.mk (below_step (by repeat (first | (with_reducible first | exact HB.out | apply below_alloc | apply pw_below_drewN | apply below_drew1 | refine below_set ?_ GE274.out) | exact HB.out)) hb); clear BK274; clear HB; have BK274 := n0_; have HB := n1_; clear n0_ n1_; (try clear hb); (try clear hb2); (try clear hk); (try clear hi)) | ((with_reducible refine gate_dst (N := 5) rfl ?_); refine box_event ?hg (N := 5) ?hd (cs := #[.int .i64 0, .int .i64 0]) (t := 24) ?hr ?_; (case hd => rfl); (case hg => rfl); (case hr => first | (go_simp; done) | (go_simp; rfl)); intro gb283 hg w106 hbox hb; have n0_ := Aside0.mk (blk_below (g := gb274) (o := .cells #[.int .i64 a1_0, .int .i64 a1_1] 24 (0, 0)) (by (with_reducible repeat (first | refine blk_drewN ?_ _ | refine blk_drew ?_ | refine blk_alloc ?_ _)); exact BK274.out) hb); have n1_ := Aside0.mk (below_step (by repeat (first | (with_reducible first | exact HB.out | apply below_alloc | apply pw_below_drewN | apply below_drew1 | refine below_set ?_ GE274.out) | exact HB.out)) hb); have n2_ := Aside0.mk (hbox); have n3_ := Aside0.mk ((by rw [hg]; exact (below_size (by repeat (first | (with_reducible first | exact HB.out | apply below_alloc | apply pw_below_drewN | apply below_drew1 | refine below_set ?_ GE274.out) | exact HB.out))) : w.heap.size ≤ gb283)); have n4_ := Aside0.mk ((by rw [hg]; exact (below_size (by repeat (first | (with_reducible first | exact HB.out | apply below_alloc | apply pw_below_drewN | apply below_drew1 | refine below_set ?_ GE274.out) | exact HB.out))) : w.heap.size ≤ gb283)); have n5_ := Aside0.mk ((by rw [hg]; exact Nat.ne_of_lt (blk_lt (g := gb274) (o := .cells #[.int .i64 a1_0, .int .i64 a1_1] 24 (0, 0)) (by (with_reducible repeat (first | refine blk_drewN ?_ _ | refine blk_drew ?_ | refine blk_alloc ?_ _)); exact BK274.out)) : gb274 ≠ gb283)); have n6_ := Aside0.mk ((by rw [hg]; exact Nat.ne_of_gt (blk_lt (g := gb274) (o := .cells #[.int .i64 a1_0, .int .i64 a1_1] 24 (0, 0)) (by (with_reducible repeat (first | refine blk_drewN ?_ _ | refine blk_drew ?_ | refine blk_alloc ?_ _)); exact BK274.out)) : gb283 ≠ gb274)); clear BK274; clear HB; have BK274 := n0_; have HB := n1_; have BK283 := n2_; have GW283 := n3_; have GE283 := n4_; have NB274_283 := n5_; have NB283_274 := n6_; clear n0_ n1_ n2_ n3_ n4_ n5_ n6_; clear hb hbox hg) | ((with_reducible refine gate_dst (N := 6) rfl ?_); refine box_event ?hg (N := 6) ?hd (cs := #[.int .i64 0, .int .i64 0]) (t := 24) ?hr ?_; (case hd => rfl); (case hg => rfl); (case hr => first | (go_simp; done) | (go_simp; rfl)); intro gb284 hg w107 hbox hb; have n0_ := Aside0.mk (blk_below (g := gb274) (o := .cells #[.int .i64 a1_0, .int .i64 a1_1] 24 (0, 0)) (by (with_reducible repeat (first | refine blk_drewN ?_ _ | refine blk_drew ?_ | refine blk_alloc ?_ _)); exact BK274.out) hb); have n1_ := Aside0.mk (blk_below (g := gb283) (o := .cells #[.int .i64 0, .int .i64 0] 24 (0, 0)) (by (with_reducible repeat (first | refine blk_drewN ?_ _ | refine blk_drew ?_ | refine blk_alloc ?_ _)); exact BK283.out) hb); have n2_ := Aside0.mk (below_step (by repeat (first | (with_reducible first | exact HB.out | apply below_alloc | apply pw_below_drewN | apply below_drew1 | refine below_set ?_ GE274.out | refine below_set ?_ GE283.out) | exact HB.out)) hb); have n3_ := Aside0.mk (hbox); have n4_ := Aside0.mk ((by rw [hg]; exact (below_size (by repeat (first | (with_reducible first | exact HB.out | apply below_alloc | apply pw_below_drewN | apply below_drew1 | refine below_set ?_ GE274.out | refine below_set ?_ GE283.out) | exact HB.out))) : w.heap.size ≤ gb284)); have n5_ := Aside0.mk ((by rw [hg]; exact (below_size (by repeat (first | (with_reducible first | exact HB.out | apply below_alloc | apply pw_below_drewN | apply below_drew1 | refine below_set ?_ GE274.out | refine below_set ?_ GE283.out) | exact HB.out))) : w.heap.size ≤ gb284)); have n6_ := Aside0.mk ((by rw [hg]; exact Nat.ne_of_lt (blk_lt (g := gb274) (o := .cells #[.int .i64 a1_0, .int .i64 a1_1] 24 (0, 0)) (by (with_reducible repeat (first | refine blk_drewN ?_ _ | refine blk_drew ?_ | refine blk_alloc ?_ _)); exact BK274.out)) : gb274 ≠ gb284)); have n7_ := Aside0.mk ((by rw [hg]; exact Nat.ne_of_gt (blk_lt (g := gb274) (o := .cells #[.int .i64 a1_0, .int .i64 a1_1] 24 (0, 0)) (by (with_reducible repeat (first | refine blk_drewN ?_ _ | refine blk_drew ?_ | refine blk_alloc ?_ _)); exact BK274.out)) : gb284 ≠ gb274)); have n8_ := Aside0.mk ((by rw [hg]; exact Nat.ne_of_lt (blk_lt (g := gb283) (o := .cells #[.int .i64 0, .int .i64 0] 24 (0, 0)) (by (with_reducible repeat (first | refine blk_drewN ?_ _ | refine blk_drew ?_ | refine blk_alloc ?_ _)); exact BK283.out)) : gb283 ≠ gb284)); have n9_ := Aside0.mk ((by rw [hg]; exact Nat.ne_of_gt (blk_lt (g := gb283) (o := .cells #[.int .i64 0, .int .i64 0] 24 (0, 0)) (by (with_reducible repeat (first | refine blk_drewN ?_ _ | refine blk_drew ?_ | refine blk_alloc ?_ _)); exact BK283.out)) : gb284 ≠ gb283)); clear BK274; clear BK283; clear HB; have BK274 := n0_; have BK283 := n1_; have HB := n2_; have BK284 := n3_; have GW284 := n4_; have GE284 := n5_; have NB274_284 := n6_; have NB284_274 := n7_; have NB283_284 := n8_; have NB284_283 := n9_; clear n0_ n1_ n2_ n3_ n4_ n5_ n6_ n7_ n8_ n9_; clear hb hbox hg; have hnb108 := NB283_274.out; have hnc108 := NB274_283.out; have hnb109 := NB283_284.out; have hnc109 := NB284_283.out; have hcz110_0 : w107.cell? ⟨gb283, 0, none⟩ = some (.int .i64 0) := (blk_cell BK283.out 0).trans rfl; have hcz110_1 : w107.cell? ⟨gb283, 1, none⟩ = some (.int .i64 0) := (blk_cell BK283.out 1).trans rfl; have hfz110_0 := blk_frozen BK283.out 0; have hfz110_1 := blk_frozen BK283.out 1; have hnb111 := NB284_274.out; have hnc111 := NB274_284.out; have hcz112_0 : w107.cell? ⟨gb284, 0, none⟩ = some (.int .i64 0) := (blk_cell BK284.out 0).trans rfl; have hcz112_1 : w107.cell? ⟨gb284, 1, none⟩ = some (.int .i64 0) := (blk_cell BK284.out 1).trans rfl; have hfz112_0 := blk_frozen BK284.out 0; have hfz112_1 := blk_frozen BK284.out 1; have hcz113_0 : w107.cell? ⟨gb274, 0, none⟩ = some (.int .i64 a1_0) := (blk_cell BK274.out 0).trans rfl; have hcz113_1 : w107.cell? ⟨gb274, 1, none⟩ = some (.int .i64 a1_1) := (blk_cell BK274.out 1).trans rfl; have hfz113_0 := blk_frozen BK274.out 0; have hfz113_1 := blk_frozen BK274.out 1))
      by_cases c18 : a1_1 = 0
      ·rw [if_pos c18] at H
       have c18b0 : (a1_1 == 0) = true := beq_iff_eq.mpr c18
       have c18b1 : (a1_1 != 0) = false := bne_eq_false_iff_eq.mpr c18
       clear c18
       by_cases c19 : (t278 == a1_0 && (t279 == a1_1)) = true
       ·rw [if_pos c19] at H
        have c19b0 : (t278 == a1_0 && (t279 == a1_1)) = true := c19
        (try (have c19b1 : decide (t278 = a1_0 && (t279 == a1_1)) = true := by simpa using c19))
        (try (have c19b2 : (t278 == a1_0 && (t279 == a1_1)) = true := by simpa using c19))
        clear c19
        by_cases c20 : (t280 == 0 && (t281 == 0)) = true
        ·rw [if_pos c20] at H
         have c20b0 : (t280 == 0 && (t281 == 0)) = true := c20
         (try (have c20b1 : decide (t280 = 0 && (t281 == 0)) = true := by simpa using c20))
         (try (have c20b2 : (t280 == 0 && (t281 == 0)) = true := by simpa using c20))
         clear c20
         obtain rfl := Option.some.inj H
         go_wp2
         go_ret
         exact ⟨by first | rfl | (simp [errW_none, errW_some] <;> rfl) | (simp [*, errW_none, errW_some] <;> rfl), by repeat (first | (with_reducible first | exact HB.out | apply below_alloc | apply pw_below_drewN | apply below_drew1 | refine below_set ?_ GE274.out | refine below_set ?_ GE283.out | refine below_set ?_ GE284.out) | exact HB.out)⟩
        ·rw [if_neg c20] at H
         have c20b0 : (t280 == 0 && (t281 == 0)) = false := by simpa using c20
         (try (have c20b1 : decide (t280 = 0 && (t281 == 0)) = false := by simpa using c20))
         (try (have c20b2 : (t280 == 0 && (t281 == 0)) = false := by simpa using c20))
         (try (have c20b3 : ¬ (t280 = 0 && (t281 == 0)) := by simpa using c20))
         clear c20
         obtain rfl := Option.some.inj H
         go_wp2
         go_ret
         exact ⟨by first | rfl | (simp [errW_none, errW_some] <;> rfl) | (simp [*, errW_none, errW_some] <;> rfl), by repeat (first | (with_reducible first | exact HB.out | apply below_alloc | apply pw_below_drewN | apply below_drew1 | refine below_set ?_ GE274.out | refine below_set ?_ GE283.out | refine below_set ?_ GE284.out) | exact HB.out)⟩
       ·rw [if_neg c19] at H
        have c19b0 : (t278 == a1_0 && (t279 == a1_1)) = false := by simpa using c19
        (try (have c19b1 : decide (t278 = a1_0 && (t279 == a1_1)) = false := by simpa using c19))
        (try (have c19b2 : (t278 == a1_0 && (t279 == a1_1)) = false := by simpa using c19))
        (try (have c19b3 : ¬ (t278 = a1_0 && (t279 == a1_1)) := by simpa using c19))
        clear c19
        obtain rfl := Option.some.inj H
        go_wp2
        go_ret
        exact ⟨by first | rfl | (simp [errW_none, errW_some] <;> rfl) | (simp [*, errW_none, errW_some] <;> rfl), by repeat (first | (with_reducible first | exact HB.out | apply below_alloc | apply pw_below_drewN | apply below_drew1 | refine below_set ?_ GE274.out | refine below_set ?_ GE283.out | refine below_set ?_ GE284.out) | exact HB.out)⟩
      ·rw [if_neg c18] at H
       have c18b0 : (a1_1 == 0) = false := beq_eq_false_iff_ne.mpr c18
       have c18b1 : (a1_1 != 0) = true := bne_iff_ne.mpr c18
       replace H := Option.bind_eq_some_iff.mp H
       obtain ⟨t285, A540, H⟩ := H
       replace H : (if 0 < (t285.length : Int) then (if (t278 == ((rd_T31 t285 0).f0.f0) && (t279 == ((rd_T31 t285 0).f0.f1))) = true then (if (t282 == ((rd_T31 t285 0).f1)) = true then (if (wrap64 (a1_1 - ((rd_T31 t285 0).f0.f1))) = 0 then (if t281 = 0 then (some true) else (if (wrap64 (a1_1 - ((rd_T31 t285 0).f0.f1))) > 0 then (some (t280 == (wrap64 (((rd_T31 t285 0).f0.f0) + ((rd_T31 t285 0).f0.f1))) && (t281 == (wrap64 (a1_1 - ((rd_T31 t285 0).f0.f1)))))) else (some false))) else (if (wrap64 (a1_1 - ((rd_T31 t285 0).f0.f1))) > 0 then (some (t280 == (wrap64 (((rd_T31 t285 0).f0.f0) + ((rd_T31 t285 0).f0.f1))) && (t281 == (wrap64 (a1_1 - ((rd_T31 t285 0).f0.f1)))))) else (some false))) else (some false)) else (some false)) else (none)) = some r := H
       have A54 := Aside0.mk A540
       clear A540
       by_cases c55 : 0 < (t285.length : Int)
       ·rw [if_pos c55] at H
        have c55b0 : decide (0 < (t285.length : Int)) = true := decide_eq_true c55
        have c55b1 : decide (0 < t285.length) = true := decide_eq_true (by omega)
        clear c55
        go_upto_region 11 with (first | ((with_reducible refine gate_dst (N := 47) rfl ?_); refine goesL_ (some 47) rfl rfl Try.func15 (by kernel_rfl) rfl #[.slice A0 l0.length c0, .agg #[.int .i64 a1_0, .int .i64 a1_1]] rfl (by (try simp only [List.map_toArray, List.map_cons, List.map_nil]); first | done | rfl | (simp only [List.length_drop, List.length_take]; rfl)) ?_; (with_reducible refine (spec_RangeParts.calls kj4 _ _ l0 a1_0 a1_1 t285 _ ?side1 ?side2 A54.out).mono ?_); (case side1 => exact Kd.C_below HR0.out (by repeat (first | (with_reducible first | exact HB.out | apply below_alloc | apply pw_below_drewN | apply below_drew1 | refine below_set ?_ GE274.out | refine below_set ?_ GE283.out | refine below_set ?_ GE284.out) | exact HB.out))); (case side2 => exact HC0.out); rintro e w114 ⟨v286, rfl, ho0, hb⟩; refine ⟨_, rfl, ?_⟩; have n0_ := Aside0.mk (Kd.R_lower ho0 (below_size (by repeat (first | (with_reducible first | exact HB.out | apply below_alloc | apply pw_below_drewN | apply below_drew1 | refine below_set ?_ GE274.out | refine below_set ?_ GE283.out | refine below_set ?_ GE284.out) | exact HB.out)))); have n1_ := Aside0.mk (blk_below (g := gb274) (o := .cells #[.int .i64 a1_0, .int .i64 a1_1] 24 (0, 0)) (by (with_reducible repeat (first | refine blk_drewN ?_ _ | refine blk_drew ?_ | refine blk_alloc ?_ _)); refine blk_far ?_ NB274_284.out _; (with_reducible repeat (first | refine blk_drewN ?_ _ | refine blk_drew ?_ | refine blk_alloc ?_ _)); refine blk_far ?_ NB274_284.out _; (with_reducible repeat (first | refine blk_drewN ?_ _ | refine blk_drew ?_ | refine blk_alloc ?_ _)); refine blk_far ?_ NB274_283.out _; (with_reducible repeat (first | refine blk_drewN ?_ _ | refine blk_drew ?_ | refine blk_alloc ?_ _)); refine blk_far ?_ NB274_283.out _; (with_reducible repeat (first | refine blk_drewN ?_ _ | refine blk_drew ?_ | refine blk_alloc ?_ _)); exact BK274.out) hb); have n2_ := Aside0.mk (blk_below (g := gb283) (o := .cells #[.int .i64 t278, .int .i64 t279] 24 (0, 0)) (by (with_reducible repeat (first | refine blk_drewN ?_ _ | refine blk_drew ?_ | refine blk_alloc ?_ _)); refine blk_far ?_ NB283_284.out _; (with_reducible repeat (first | refine blk_drewN ?_ _ | refine blk_drew ?_ | refine blk_alloc ?_ _)); refine blk_far ?_ NB283_284.out _; (with_reducible repeat (first | refine blk_drewN ?_ _ | refine blk_drew ?_ | refine blk_alloc ?_ _)); refine blk_put (cs := #[.int .i64 t278, .int .i64 0]) ?_ 1 _ rfl; (with_reducible repeat (first | refine blk_drewN ?_ _ | refine blk_drew ?_ | refine blk_alloc ?_ _)); refine blk_put (cs := #[.int .i64 0, .int .i64 0]) ?_ 0 _ rfl; (with_reducible repeat (first | refine blk_drewN ?_ _ | refine blk_drew ?_ | refine blk_alloc ?_ _)); exact BK283.out) hb); have n3_ := Aside0.mk (blk_below (g := gb284) (o := .cells #[.int .i64 t280, .int .i64 t281] 24 (0, 0)) (by (with_reducible repeat (first | refine blk_drewN ?_ _ | refine blk_drew ?_ | refine blk_alloc ?_ _)); refine blk_put (cs := #[.int .i64 t280, .int .i64 0]) ?_ 1 _ rfl; (with_reducible repeat (first | refine blk_drewN ?_ _ | refine blk_drew ?_ | refine blk_alloc ?_ _)); refine blk_put (cs := #[.int .i64 0, .int .i64 0]) ?_ 0 _ rfl; (with_reducible repeat (first | refine blk_drewN ?_ _ | refine blk_drew ?_ | refine blk_alloc ?_ _)); refine blk_far ?_ NB284_283.out _; (with_reducible repeat (first | refine blk_drewN ?_ _ | refine blk_drew ?_ | refine blk_alloc ?_ _)); refine blk_far ?_ NB284_283.out _; (with_reducible repeat (first | refine blk_drewN ?_ _ | refine blk_drew ?_ | refine blk_alloc ?_ _)); exact BK284.out) hb); have n4_ := Aside0.mk (below_step (by repeat (first | (with_reducible first | exact HB.out | apply below_alloc | apply pw_below_drewN | apply below_drew1 | refine below_set ?_ GE274.out | refine below_set ?_ GE283.out | refine below_set ?_ GE284.out) | exact HB.out)) hb); clear BK274; clear BK283; clear BK284; clear HB; have HO287 := n0_; have BK274 := n1_; have BK283 := n2_; have BK284 := n3_; have HB := n4_; clear n0_ n1_ n2_ n3_ n4_; (try clear hb); (try clear hb2); (try clear hk); (try clear hi); (try clear ho0); obtain ⟨Ao115, co115, eo115⟩ := Kd.R_slice HO287.out; subst eo115; have p288 : 0 ≤ (0 : Int) := (by omega); have q288 : 0 < (t285.length : Int) := of_decide_eq_true (by first | (with_reducible assumption) | assumption); obtain ⟨ad288, e288, hx288_0, hx288_1, hx288_2⟩ := at_T31 (Kd.R_reads' HO287.out).2.2 0 p288 q288; cases e288; have qi288 : (0 < t285.length) = True := eq_true (by omega); (try rw [show ((0 : Int)).toNat = 0 from rfl] at hx288_0); (try rw [show 0 * 3 = 0 from rfl] at hx288_0); (try rw [Addr.add_zero'] at hx288_0); (try rw [show ((0 : Int)).toNat = 0 from rfl] at hx288_1); (try rw [show 0 * 3 = 0 from rfl] at hx288_1); (try rw [Addr.add_zero'] at hx288_1); (try rw [show ((0 : Int)).toNat = 0 from rfl] at hx288_2); (try rw [show 0 * 3 = 0 from rfl] at hx288_2); (try rw [Addr.add_zero'] at hx288_2); replace p288 := eq_true p288; replace q288 := eq_true q288) | ((with_reducible refine gate_dst (N := 8) rfl ?_); refine box_event ?hg (N := 8) ?hd (cs := #[.int .i64 0, .int .i64 0, .bool false]) (t := 31) ?hr ?_; (case hd => rfl); (case hg => rfl); (case hr => first | (go_simp; done) | (go_simp; rfl)); intro gb289 hg w116 hbox hb; have n0_ := Aside0.mk (Kd.R_below (Kd.R_elderB (by (with_reducible repeat (first | apply Kd.R_alloc | apply Kd.R_drewN | apply Kd.R_drew)); exact HO287.out) gb289 (Nat.le_of_eq hg.symm)) hb); have n1_ := Aside0.mk (blk_below (g := gb274) (o := .cells #[.int .i64 a1_0, .int .i64 a1_1] 24 (0, 0)) (by (with_reducible repeat (first | refine blk_drewN ?_ _ | refine blk_drew ?_ | refine blk_alloc ?_ _)); exact BK274.out) hb); have n2_ := Aside0.mk (blk_below (g := gb283) (o := .cells #[.int .i64 t278, .int .i64 t279] 24 (0, 0)) (by (with_reducible repeat (first | refine blk_drewN ?_ _ | refine blk_drew ?_ | refine blk_alloc ?_ _)); exact BK283.out) hb); have n3_ := Aside0.mk (blk_below (g := gb284) (o := .cells #[.int .i64 t280, .int .i64 t281] 24 (0, 0)) (by (with_reducible repeat (first | refine blk_drewN ?_ _ | refine blk_drew ?_ | refine blk_alloc ?_ _)); exact BK284.out) hb); have n4_ := Aside0.mk (below_step (by repeat (first | (with_reducible first | exact HB.out | apply below_alloc | apply pw_below_drewN | apply below_drew1 | refine below_set ?_ GE274.out | refine below_set ?_ GE283.out | refine below_set ?_ GE284.out) | exact HB.out)) hb); have n5_ := Aside0.mk (hbox); have n6_ := Aside0.mk ((by rw [hg]; exact (below_size (by repeat (first | (with_reducible first | exact HB.out | apply below_alloc | apply pw_below_drewN | apply below_drew1 | refine below_set ?_ GE274.out | refine below_set ?_ GE283.out | refine below_set ?_ GE284.out) | exact HB.out))) : w.heap.size ≤ gb289)); have n7_ := Aside0.mk ((by rw [hg]; exact (below_size (by repeat (first | (with_reducible first | exact HB.out | apply below_alloc | apply pw_below_drewN | apply below_drew1 | refine below_set ?_ GE274.out | refine below_set ?_ GE283.out | refine below_set ?_ GE284.out) | exact HB.out))) : w.heap.size ≤ gb289)); have n8_ := Aside0.mk ((by rw [hg]; exact Nat.ne_of_lt (blk_lt (g := gb274) (o := .cells #[.int .i64 a1_0, .int .i64 a1_1] 24 (0, 0)) (by (with_reducible repeat (first | refine blk_drewN ?_ _ | refine blk_drew ?_ | refine blk_alloc ?_ _)); exact BK274.out)) : gb274 ≠ gb289)); have n9_ := Aside0.mk ((by rw [hg]; exact Nat.ne_of_gt (blk_lt (g := gb274) (o := .cells #[.int .i64 a1_0, .int .i64 a1_1] 24 (0, 0)) (by (with_reducible repeat (first | refine blk_drewN ?_ _ | refine blk_drew ?_ | refine blk_alloc ?_ _)); exact BK274.out)) : gb289 ≠ gb274)); have n10_ := Aside0.mk ((by rw [hg]; exact Nat.ne_of_lt (blk_lt (g := gb283) (o := .cells #[.int .i64 t278, .int .i64 t279] 24 (0, 0)) (by (with_reducible repeat (first | refine blk_drewN ?_ _ | refine blk_drew ?_ | refine blk_alloc ?_ _)); exact BK283.out)) : gb283 ≠ gb289)); have n11_ := Aside0.mk ((by rw [hg]; exact Nat.ne_of_gt (blk_lt (g := gb283) (o := .cells #[.int .i64 t278, .int .i64 t279] 24 (0, 0)) (by (with_reducible repeat (first | refine blk_drewN ?_ _ | refine blk_drew ?_ | refine blk_alloc ?_ _)); exact BK283.out)) : gb289 ≠ gb283)); have n12_ := Aside0.mk ((by rw [hg]; exact Nat.ne_of_lt (blk_lt (g := gb284) (o := .cells #[.int .i64 t280, .int .i64 t281] 24 (0, 0)) (by (with_reducible repeat (first | refine blk_drewN ?_ _ | refine blk_drew ?_ | refine blk_alloc ?_ _)); exact BK284.out)) : gb284 ≠ gb289)); have n13_ := Aside0.mk ((by rw [hg]; exact Nat.ne_of_gt (blk_lt (g := gb284) (o := .cells #[.int .i64 t280, .int .i64 t281] 24 (0, 0)) (by (with_reducible repeat (first | refine blk_drewN ?_ _ | refine blk_drew ?_ | refine blk_alloc ?_ _)); exact BK284.out)) : gb289 ≠ gb284)); clear HO287; clear BK274; clear BK283; clear BK284; clear HB; have HO287 := n0_; have BK274 := n1_; have BK283 := n2_; have BK284 := n3_; have HB := n4_; have BK289 := n5_; have GW289 := n6_; have GE289 := n7_; have NB274_289 := n8_; have NB289_274 := n9_; have NB283_289 := n10_; have NB289_283 := n11_; have NB284_289 := n12_; have NB289_284 := n13_; clear n0_ n1_ n2_ n3_ n4_ n5_ n6_ n7_ n8_ n9_ n10_ n11_ n12_ n13_; clear hb hbox hg; have hnb117 := NB289_274.out; have hnc117 := NB274_289.out; have hnb118 := NB289_283.out; have hnc118 := NB283_289.out; have hnb119 := NB289_284.out; have hnc119 := NB284_289.out; have hcz120_0 : w116.cell? ⟨gb289, 0, none⟩ = some (.int .i64 0) := (blk_cell BK289.out 0).trans rfl; have hcz120_1 : w116.cell? ⟨gb289, 1, none⟩ = some (.int .i64 0) := (blk_cell BK289.out 1).trans rfl; have hcz120_2 : w116.cell? ⟨gb289, 2, none⟩ = some (.bool false) := (blk_cell BK289.out 2).trans rfl; have hfz120_0 := blk_frozen BK289.out 0; have hfz120_1 := blk_frozen BK289.out 1; have hfz120_2 := blk_frozen BK289.out 2; have hcz121_0 : w116.cell? ⟨gb274, 0, none⟩ = some (.int .i64 a1_0) := (blk_cell BK274.out 0).trans rfl; have hcz121_1 : w116.cell? ⟨gb274, 1, none⟩ = some (.int .i64 a1_1) := (blk_cell BK274.out 1).trans rfl; have hfz121_0 := blk_frozen BK274.out 0; have hfz121_1 := blk_frozen BK274.out 1; have hcz122_0 : w116.cell? ⟨gb283, 0, none⟩ = some (.int .i64 t278) := (blk_cell BK283.out 0).trans rfl; have hcz122_1 : w116.cell? ⟨gb283, 1, none⟩ = some (.int .i64 t279) := (blk_cell BK283.out 1).trans rfl; have hfz122_0 := blk_frozen BK283.out 0; have hfz122_1 := blk_frozen BK283.out 1; have hcz123_0 : w116.cell? ⟨gb284, 0, none⟩ = some (.int .i64 t280) := (blk_cell BK284.out 0).trans rfl; have hcz123_1 : w116.cell? ⟨gb284, 1, none⟩ = some (.int .i64 t281) := (blk_cell BK284.out 1).trans rfl; have hfz123_0 := blk_frozen BK284.out 0; have hfz123_1 := blk_frozen BK284.out 1))
        by_cases c56 : (t278 == ((rd_T31 t285 0).f0.f0) && (t279 == ((rd_T31 t285 0).f0.f1))) = true
        ·rw [if_pos c56] at H
         have c56b0 : (t278 == ((rd_T31 t285 0).f0.f0) && (t279 == ((rd_T31 t285 0).f0.f1))) = true := c56
         (try (have c56b1 : decide (t278 = ((rd_T31 t285 0).f0.f0) && (t279 == ((rd_T31 t285 0).f0.f1))) = true := by simpa using c56))
         (try (have c56b2 : (t278 == ((rd_T31 t285 0).f0.f0) && (t279 == ((rd_T31 t285 0).f0.f1))) = true := by simpa using c56))
         clear c56
         by_cases c57 : (t282 == ((rd_T31 t285 0).f1)) = true
         ·rw [if_pos c57] at H
          have c57b0 : (t282 == ((rd_T31 t285 0).f1)) = true := c57
          (try (have c57b1 : decide (t282 = ((rd_T31 t285 0).f1)) = true := by simpa using c57))
          (try (have c57b2 : (t282 == ((rd_T31 t285 0).f1)) = true := by simpa using c57))
          clear c57
          by_cases c58 : (wrap64 (a1_1 - ((rd_T31 t285 0).f0.f1))) = 0
          ·rw [if_pos c58] at H
           have c58b0 : ((wrap64 (a1_1 - ((rd_T31 t285 0).f0.f1))) == 0) = true := beq_iff_eq.mpr c58
           have c58b1 : ((wrap64 (a1_1 - ((rd_T31 t285 0).f0.f1))) != 0) = false := bne_eq_false_iff_eq.mpr c58
           clear c58
           by_cases c59 : t281 = 0
           ·rw [if_pos c59] at H
            have c59b0 : (t281 == 0) = true := beq_iff_eq.mpr c59
            have c59b1 : (t281 != 0) = false := bne_eq_false_iff_eq.mpr c59
            clear c59
            obtain rfl := Option.some.inj H
            go_wp2
            go_ret
            exact ⟨by first | rfl | (simp [errW_none, errW_some] <;> rfl) | (simp [*, errW_none, errW_some] <;> rfl), by repeat (first | (with_reducible first | exact HB.out | apply below_alloc | apply pw_below_drewN | apply below_drew1 | refine below_set ?_ GE274.out | refine below_set ?_ GE283.out | refine below_set ?_ GE284.out | refine below_set ?_ GE289.out) | exact HB.out)⟩
           ·rw [if_neg c59] at H
            have c59b0 : (t281 == 0) = false := beq_eq_false_iff_ne.mpr c59
            have c59b1 : (t281 != 0) = true := bne_iff_ne.mpr c59
            by_cases c81 : (wrap64 (a1_1 - ((rd_T31 t285 0).f0.f1))) > 0
            ·rw [if_pos c81] at H
             have c81b0 : decide (0 < (wrap64 (a1_1 - ((rd_T31 t285 0).f0.f1)))) = true := decide_eq_true c81
             clear c81
             obtain rfl := Option.some.inj H
             go_wp2
             go_ret
             exact ⟨by first | rfl | (simp [errW_none, errW_some] <;> rfl) | (simp [*, errW_none, errW_some] <;> rfl), by repeat (first | (with_reducible first | exact HB.out | apply below_alloc | apply pw_below_drewN | apply below_drew1 | refine below_set ?_ GE274.out | refine below_set ?_ GE283.out | refine below_set ?_ GE284.out | refine below_set ?_ GE289.out) | exact HB.out)⟩
            ·rw [if_neg c81] at H
             have c81b0 : decide (0 < (wrap64 (a1_1 - ((rd_T31 t285 0).f0.f1)))) = false := decide_eq_false c81
             clear c81
             obtain rfl := Option.some.inj H
             go_wp2
             go_ret
             exact ⟨by first | rfl | (simp [errW_none, errW_some] <;> rfl) | (simp [*, errW_none, errW_some] <;> rfl), by repeat (first | (with_reducible first | exact HB.out | apply below_alloc | apply pw_below_drewN | apply below_drew1 | refine below_set ?_ GE274.out | refine below_set ?_ GE283.out | refine below_set ?_ GE284.out | refine below_set ?_ GE289.out) | exact HB.out)⟩
          ·rw [if_neg c58] at H
           have c58b0 : ((wrap64 (a1_1 - ((rd_T31 t285 0).f0.f1))) == 0) = false := beq_eq_false_iff_ne.mpr c58
           have c58b1 : ((wrap64 (a1_1 - ((rd_T31 t285 0).f0.f1))) != 0) = true := bne_iff_ne.mpr c58
           by_cases c124 : (wrap64 (a1_1 - ((rd_T31 t285 0).f0.f1))) > 0
           ·rw [if_pos c124] at H
            have c124b0 : decide (0 < (wrap64 (a1_1 - ((rd_T31 t285 0).f0.f1)))) = true := decide_eq_true c124
            clear c124
            obtain rfl := Option.some.inj H
            go_wp2
            go_ret
            exact ⟨by first | rfl | (simp [errW_none, errW_some] <;> rfl) | (simp [*, errW_none, errW_some] <;> rfl), by repeat (first | (with_reducible first | exact HB.out | apply below_alloc | apply pw_below_drewN | apply below_drew1 | refine below_set ?_ GE274.out | refine below_set ?_ GE283.out | refine below_set ?_ GE284.out | refine below_set ?_ GE289.out) | exact HB.out)⟩
           ·rw [if_neg c124] at H
            have c124b0 : decide (0 < (wrap64 (a1_1 - ((rd_T31 t285 0).f0.f1)))) = false := decide_eq_false c124
            clear c124
            obtain rfl := Option.some.inj H
            go_wp2
            go_ret
            exact ⟨by first | rfl | (simp [errW_none, errW_some] <;> rfl) | (simp [*, errW_none, errW_some] <;> rfl), by repeat (first | (with_reducible first | exact HB.out | apply below_alloc | apply pw_below_drewN | apply below_drew1 | refine below_set ?_ GE274.out | refine below_set ?_ GE283.out | refine below_set ?_ GE284.out | refine below_set ?_ GE289.out) | exact HB.out)⟩
         ·rw [if_neg c57] at H
          have c57b0 : (t282 == ((rd_T31 t285 0).f1)) = false := by simpa using c57
          (try (have c57b1 : decide (t282 = ((rd_T31 t285 0).f1)) = false := by simpa using c57))
          (try (have c57b2 : (t282 == ((rd_T31 t285 0).f1)) = false := by simpa using c57))
          (try (have c57b3 : ¬ (t282 = ((rd_T31 t285 0).f1)) := by simpa using c57))
          clear c57
          obtain rfl := Option.some.inj H
          go_wp2
          go_ret
          exact ⟨by first | rfl | (simp [errW_none, errW_some] <;> rfl) | (simp [*, errW_none, errW_some] <;> rfl), by repeat (first | (with_reducible first | exact HB.out | apply below_alloc | apply pw_below_drewN | apply below_drew1 | refine below_set ?_ GE274.out | refine below_set ?_ GE283.out | refine below_set ?_ GE284.out | refine below_set ?_ GE289.out) | exact HB.out)⟩
        ·rw [if_neg c56] at H
         have c56b0 : (t278 == ((rd_T31 t285 0).f0.f0) && (t279 == ((rd_T31 t285 0).f0.f1))) = false := by simpa using c56
         (try (have c56b1 : decide (t278 = ((rd_T31 t285 0).f0.f0) && (t279 == ((rd_T31 t285 0).f0.f1))) = false := by simpa using c56))
         (try (have c56b2 : (t278 == ((rd_T31 t285 0).f0.f0) && (t279 == ((rd_T31 t285 0).f0.f1))) = false := by simpa using c56))
         (try (have c56b3 : ¬ (t278 = ((rd_T31 t285 0).f0.f0) && (t279 == ((rd_T31 t285 0).f0.f1))) := by simpa using c56))
         clear c56
         obtain rfl := Option.some.inj H
         go_wp2
         go_ret
         exact ⟨by first | rfl | (simp [errW_none, errW_some] <;> rfl) | (simp [*, errW_none, errW_some] <;> rfl), by repeat (first | (with_reducible first | exact HB.out | apply below_alloc | apply pw_below_drewN | apply below_drew1 | refine below_set ?_ GE274.out | refine below_set ?_ GE283.out | refine below_set ?_ GE284.out | refine below_set ?_ GE289.out) | exact HB.out)⟩
       ·rw [if_neg c55] at H
        exact absurd H (by simp)
     ·replace c16 := Bool.eq_false_iff.mpr c16
      subst c16
      have H1 : (some false) = some r := by rw [if_neg (show ¬ (false = true) by decide)] at H; exact H
      clear H
      have H := H1
      clear H1
      obtain rfl := Option.some.inj H
      go_wp2_with (first | ((with_reducible refine gate_dst (N := 21) rfl ?_); refine goesL_ (some 21) rfl rfl Try.func13 (by kernel_rfl) rfl #[] rfl (by (try simp only [List.map_toArray, List.map_cons, List.map_nil]); first | done | rfl | (simp only [List.length_drop, List.length_take]; rfl)) ?_; (with_reducible refine (laws_rangeAwake.calls kj4  false _ A15.out).mono ?_); rintro e w206 ⟨rfl, hb⟩; refine ⟨_, rfl, ?_⟩; have n0_ := Aside0.mk (blk_below (g := gb274) (o := .cells #[.int .i64 a1_0, .int .i64 a1_1] 24 (0, 0)) (by (with_reducible repeat (first | refine blk_drewN ?_ _ | refine blk_drew ?_ | refine blk_alloc ?_ _)); exact BK274.out) hb); have n1_ := Aside0.mk (below_step (by repeat (first | (with_reducible first | exact HB.out | apply below_alloc | apply pw_below_drewN | apply below_drew1 | refine below_set ?_ GE274.out) | exact HB.out)) hb); clear BK274; clear HB; have BK274 := n0_; have HB := n1_; clear n0_ n1_; (try clear hb); (try clear hb2); (try clear hk); (try clear hi)))
      go_ret
      exact ⟨by first | rfl | (simp [errW_none, errW_some] <;> rfl) | (simp [*, errW_none, errW_some] <;> rfl), by repeat (first | (with_reducible first | exact HB.out | apply below_alloc | apply pw_below_drewN | apply below_drew1 | refine below_set ?_ GE274.out) | exact HB.out)⟩
def laws_FnRangesFind.Pure : Prop := ∀ (l0 : List (S24)) (a1_0 : Int) (a1_1 : Int), l0.length ≤ maxLen → (∀ y ∈ l0, (((Lit.int .i64 y.f0).wf = true) ∧ ((Lit.int .i64 y.f1).wf = true))) → (((Lit.int .i64 a1_0).wf = true) ∧ ((Lit.int .i64 a1_1).wf = true)) → ∃ k, laws_FnRangesFind.f k l0 a1_0 a1_1 = some true
theorem laws_FnRangesFind.walk (P : laws_FnRangesFind.Pure) (w : World) (A0 : Option Addr) (c0 : Nat) (l0 : List (S24)) (hr0 : Kd.C k24 w A0 l0.length l0) (hc0 : l0.length ≤ c0) (a1_0 : Int) (a1_1 : Int) (b0_0 : l0.length ≤ maxLen) (b0_1 : (∀ y ∈ l0, (((Lit.int .i64 y.f0).wf = true) ∧ ((Lit.int .i64 y.f1).wf = true)))) (b1_0 : (((Lit.int .i64 a1_0).wf = true) ∧ ((Lit.int .i64 a1_1).wf = true))) :
  Calls Try.prog 3 #[.slice A0 l0.length c0, .agg #[.int .i64 a1_0, .int .i64 a1_1]] w fun e w' => e = .returned (.bool true) ∧ Below w.heap.size w w' := by
 obtain ⟨k, h⟩ := P l0 a1_0 a1_1 b0_0 b0_1 b1_0
 refine (laws_FnRangesFind.calls k A0 c0 l0 a1_0 a1_1 true w hr0 hc0  h).mono ?_
 rintro e w' ⟨rfl, hd⟩
 exact ⟨rfl, hd⟩

end Go.Proofs.Ytmkhkkfliecfdaa.PT
