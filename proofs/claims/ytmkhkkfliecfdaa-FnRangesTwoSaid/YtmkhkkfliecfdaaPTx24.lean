-- Written by a program of this session. -- slim
import Derived.Test.YtmkhkkfliecfdaaPTx20
import Derived.Test.YtmkhkkfliecfdaaPTx22
import Derived.Test.YtmkhkkfliecfdaaPTx23
namespace Go.Proofs.Ytmkhkkfliecfdaa.PT
open Go.RowKit Go.Proofs.YtmkhkkfliecfdaaW.PrintWords Go.Proofs.YtmkhkkfliecfdaaW.PrintLast Go.Proofs.Ytmkhkkfliecfdaa.Given Go.Proofs.Ytmkhkkfliecfdaa.Mm
attribute [local go_sem] mx_go mn_go
set_option linter.unusedVariables false
set_option linter.unusedSimpArgs false

attribute [local go_sem high] idx70
/-! ### spec_RangeParts: function 15 -/
mutual
def spec_RangeParts.l0 : Nat → List (S24) → List (S31) → List Int → Int → Int → Int → Option ((List (S31)))
 | 0, _, _, _, _, _, _ => none
 | k + 1, x0, x5, x6, x7, x241000, x241001 => if (wrap64 (x7 + 1)) < (x6.length : Int) then (if 0 ≤ x7 then (if x7 < (x6.length : Int) then (if 0 ≤ (wrap64 (x7 + 1)) then (if (rd x6 x7) < x241000 then (spec_RangeParts.j1 k x0 x5 x6 x7 (rd x6 x7) (rd x6 (wrap64 (x7 + 1))) true x241000 x241001) else (spec_RangeParts.j1 k x0 x5 x6 x7 (rd x6 x7) (rd x6 (wrap64 (x7 + 1))) (decide ((rd x6 (wrap64 (x7 + 1))) > (wrap64 (x241000 + x241001)))) x241000 x241001)) else (none)) else (none)) else (none)) else (some x5)
def spec_RangeParts.j1 : Nat → List (S24) → List (S31) → List Int → Int → Int → Int → Bool → Int → Int → Option ((List (S31)))
 | 0, _, _, _, _, _, _, _, _, _ => none
 | k + 1, x0, x5, x6, x7, x8, x9, x50, x241000, x241001 => if x50 = true then (spec_RangeParts.l0 k x0 x5 x6 (wrap64 (x7 + 1)) x241000 x241001) else ((spec_RangeHas.f k x0 x8).bind fun t258 => (if (x5.length : Int) > 0 then (if 0 ≤ (wrap64 ((x5.length : Int) - 1)) then (if (wrap64 ((x5.length : Int) - 1)) < (x5.length : Int) then (if (((rd_T31 x5 (wrap64 ((x5.length : Int) - 1))).f1) == t258) = true then (spec_RangeParts.l0 k x0 (x5.set ((wrap64 ((x5.length : Int) - 1)) : Int).toNat (⟨(⟨(rd_T31 x5 (wrap64 ((x5.length : Int) - 1))).f0.f0, wrap64 (((rd_T31 x5 (wrap64 ((x5.length : Int) - 1))).f0.f1) + (wrap64 (x9 - x8)))⟩ : S24), (rd_T31 x5 (wrap64 ((x5.length : Int) - 1))).f1⟩ : S31)) x6 (wrap64 (x7 + 1)) x241000 x241001) else ((some (([(⟨(⟨x8, wrap64 (x9 - x8)⟩ : S24), t258⟩ : S31)] : List (S31)) : List (S31))).bind fun y262 => (if x5.length + y262.length < 5864062014805 then (spec_RangeParts.l0 k x0 (x5 ++ y262) x6 (wrap64 (x7 + 1)) x241000 x241001) else (none)))) else (none)) else (none)) else ((some (([(⟨(⟨x8, wrap64 (x9 - x8)⟩ : S24), t258⟩ : S31)] : List (S31)) : List (S31))).bind fun y268 => (if x5.length + y268.length < 5864062014805 then (spec_RangeParts.l0 k x0 (x5 ++ y268) x6 (wrap64 (x7 + 1)) x241000 x241001) else (none)))))
end
def spec_RangeParts.f (k : Nat) (l0 : List (S24)) (a1_0 : Int) (a1_1 : Int) : Option ((List (S31))) := if a1_1 < 1 then (some ([] : List (S31))) else ((some (([] : List (S24)) : List (S24))).bind fun y241 => (if y241.length + l0.length < 8796093022208 then ((some (y241 ++ l0 : List (S24))).bind fun y244 => ((some (([(⟨a1_0, a1_1⟩ : S24)] : List (S24)) : List (S24))).bind fun y247 => (if y244.length + y247.length < 8796093022208 then ((spec_rangeMarks.f k (y244 ++ y247)).bind fun t253 => (spec_RangeParts.l0 k l0 ([] : List (S31)) t253 0 a1_0 a1_1)) else (none)))) else (none)))
theorem spec_RangeParts.mono_l : ∀ k, (∀ y0 y1 y2 y3 y4 y5, LeO (spec_RangeParts.l0 k y0 y1 y2 y3 y4 y5) (spec_RangeParts.l0 (k + 1) y0 y1 y2 y3 y4 y5)) ∧ (∀ y0 y1 y2 y3 y4 y5 y6 y7 y8, LeO (spec_RangeParts.j1 k y0 y1 y2 y3 y4 y5 y6 y7 y8) (spec_RangeParts.j1 (k + 1) y0 y1 y2 y3 y4 y5 y6 y7 y8))
 | 0 => ⟨fun _ _ _ _ _ _ r h => by simp [spec_RangeParts.l0] at h, fun _ _ _ _ _ _ _ _ _ r h => by simp [spec_RangeParts.j1] at h⟩
 | k + 1 => by
  obtain ⟨ih0, ih1⟩ := spec_RangeParts.mono_l k
  refine ⟨?_, ?_⟩
  ·intro y0 y1 y2 y3 y4 y5
   unfold spec_RangeParts.l0
   repeat' first
   | (with_reducible exact ih0 _ _ _ _ _ _)
   | (with_reducible exact ih1 _ _ _ _ _ _ _ _ _)
   | (with_reducible exact spec_RangeHas.mono _ _ _)
   | (with_reducible exact spec_rangeMarks.mono _ _)
   | (with_reducible exact LeO.refl _)
   | (with_reducible exact LeO.none _)
   | (with_reducible refine LeO.ite ?_ ?_)
   | (with_reducible refine LeO.bind ?_ (fun _ => ?_))
   | exact ih0 _ _ _ _ _ _
   | exact ih1 _ _ _ _ _ _ _ _ _
   | exact spec_RangeHas.mono _ _ _
   | exact spec_rangeMarks.mono _ _
   | exact LeO.none _
   | refine LeO.ite ?_ ?_
   | refine LeO.bind ?_ (fun _ => ?_)
  ·intro y0 y1 y2 y3 y4 y5 y6 y7 y8
   unfold spec_RangeParts.j1
   repeat' first
   | (with_reducible exact ih0 _ _ _ _ _ _)
   | (with_reducible exact ih1 _ _ _ _ _ _ _ _ _)
   | (with_reducible exact spec_RangeHas.mono _ _ _)
   | (with_reducible exact spec_rangeMarks.mono _ _)
   | (with_reducible exact LeO.refl _)
   | (with_reducible exact LeO.none _)
   | (with_reducible refine LeO.ite ?_ ?_)
   | (with_reducible refine LeO.bind ?_ (fun _ => ?_))
   | exact ih0 _ _ _ _ _ _
   | exact ih1 _ _ _ _ _ _ _ _ _
   | exact spec_RangeHas.mono _ _ _
   | exact spec_rangeMarks.mono _ _
   | exact LeO.none _
   | refine LeO.ite ?_ ?_
   | refine LeO.bind ?_ (fun _ => ?_)
theorem spec_RangeParts.mono : ∀ a0 a1 a2 k, LeO (spec_RangeParts.f k a0 a1 a2) (spec_RangeParts.f (k + 1) a0 a1 a2) := by
 intro a0 a1 a2 k
 obtain ⟨ih0, ih1⟩ := spec_RangeParts.mono_l k
 unfold spec_RangeParts.f
 repeat' first
   | (with_reducible exact ih0 _ _ _ _ _ _)
   | (with_reducible exact ih1 _ _ _ _ _ _ _ _ _)
   | (with_reducible exact spec_RangeHas.mono _ _ _)
   | (with_reducible exact spec_rangeMarks.mono _ _)
   | (with_reducible exact LeO.refl _)
   | (with_reducible exact LeO.none _)
   | (with_reducible refine LeO.ite ?_ ?_)
   | (with_reducible refine LeO.bind ?_ (fun _ => ?_))
   | exact ih0 _ _ _ _ _ _
   | exact ih1 _ _ _ _ _ _ _ _ _
   | exact spec_RangeHas.mono _ _ _
   | exact spec_rangeMarks.mono _ _
   | exact LeO.none _
   | refine LeO.ite ?_ ?_
   | refine LeO.bind ?_ (fun _ => ?_)
def spec_RangeParts.T4 : Bool × List (List Nat × List Nat) := (true, [([], []), ([], []), ([0, 1], [0, 1]), ([], []), ([3], [3]), ([2, 4, 2], [2, 4]), ([5, 5], [5]), ([6, 6, 0, 1, 2, 3, 4, 5, 6], [6])])
def spec_RangeParts.B4 : List Nat := [0, 0, 3, 0, 8, 31, 63, 127]
theorem spec_RangeParts.tab4 : rtab .any (opsOf Try.f15 4) = spec_RangeParts.T4 := by kernel_rfl
theorem spec_RangeParts.bits4 : waitsOk spec_RangeParts.T4.2 spec_RangeParts.B4 = true := by kernel_rfl
def spec_RangeParts.T8 : Bool × List (List Nat × List Nat) := (true, [([], []), ([], []), ([0, 1], [0, 1]), ([2], [2]), ([], []), ([], []), ([5], [5]), ([4, 6], [4, 6]), ([7], [7]), ([3, 0, 1, 2, 3], [3]), ([8, 9, 0, 1, 2, 3, 4, 5, 6, 7, 8, 9], [8])])
def spec_RangeParts.B8 : List Nat := [0, 0, 3, 7, 0, 0, 32, 112, 240, 15, 1023]
theorem spec_RangeParts.tab8 : rtab .any (opsOf Try.f15 8) = spec_RangeParts.T8 := by kernel_rfl
theorem spec_RangeParts.bits8 : waitsOk spec_RangeParts.T8.2 spec_RangeParts.B8 = true := by kernel_rfl
set_option maxHeartbeats 8000000 in
set_option maxRecDepth 100000 in
theorem spec_RangeParts.calls (k : Nat) (A0 : Option Addr) (c0 : Nat) (l0 : List (S24)) (a1_0 : Int) (a1_1 : Int) (r : List (S31)) (w : World) (hr0 : Kd.C k24 w A0 l0.length l0) (hc0 : l0.length ≤ c0) (h : spec_RangeParts.f k l0 a1_0 a1_1 = some r) :
  Calls Try.prog 15 #[.slice A0 l0.length c0, .agg #[.int .i64 a1_0, .int .i64 a1_1]] w fun e w' => ∃ v0_ : Value, e = .returned (v0_) ∧ Kd.R k31 31 w' w.heap.size (fun _ => True) v0_ r ∧ Below w.heap.size w w' := by
 have hu24 := Try.underlying24
 have hu31 := Try.underlying31
 have HR0 := Aside0.mk hr0
 have HC0 := Aside0.mk hc0
 clear hr0 hc0
 have HB := Aside0.mk (Below.refl w.heap.size w)
 have H : (if a1_1 < 1 then (some ([] : List (S31))) else ((some (([] : List (S24)) : List (S24))).bind fun y241 => (if y241.length + l0.length < 8796093022208 then ((some (y241 ++ l0 : List (S24))).bind fun y244 => ((some (([(⟨a1_0, a1_1⟩ : S24)] : List (S24)) : List (S24))).bind fun y247 => (if y244.length + y247.length < 8796093022208 then ((spec_rangeMarks.f k (y244 ++ y247)).bind fun t253 => (spec_RangeParts.l0 k l0 ([] : List (S31)) t253 0 a1_0 a1_1)) else (none)))) else (none)))) = some r := h
 clear h
 by_cases c3 : a1_1 < 1
 ·rw [if_pos c3] at H
  have c3b0 : decide (a1_1 < 1) = true := decide_eq_true c3
  clear c3
  obtain rfl := Option.some.inj H
  go_enter Try.func15, Try.ntmps15
  go_wp2_with (first | ((with_reducible refine gate_dst (N := 3) rfl ?_); refine box_event ?hg (N := 3) ?hd (cs := #[.int .i64 a1_0, .int .i64 a1_1]) (t := 24) ?hr ?_; (case hd => rfl); (case hg => rfl); (case hr => first | (go_simp; done) | (go_simp; rfl)); intro gb240 hg w4 hbox hb; have n0_ := Aside0.mk (below_step (by repeat (first | (with_reducible first | exact HB.out | apply below_alloc | apply pw_below_drewN | apply below_drew1) | exact HB.out)) hb); have n1_ := Aside0.mk (hbox); have n2_ := Aside0.mk ((by rw [hg]; exact (below_size (by repeat (first | (with_reducible first | exact HB.out | apply below_alloc | apply pw_below_drewN | apply below_drew1) | exact HB.out))) : w.heap.size ≤ gb240)); have n3_ := Aside0.mk ((by rw [hg]; exact (below_size (by repeat (first | (with_reducible first | exact HB.out | apply below_alloc | apply pw_below_drewN | apply below_drew1) | exact HB.out))) : w.heap.size ≤ gb240)); clear HB; have HB := n0_; have BK240 := n1_; have GW240 := n2_; have GE240 := n3_; clear n0_ n1_ n2_ n3_; clear hb hbox hg; have hcz5_0 : w4.cell? ⟨gb240, 0, none⟩ = some (.int .i64 a1_0) := (blk_cell BK240.out 0).trans rfl; have hcz5_1 : w4.cell? ⟨gb240, 1, none⟩ = some (.int .i64 a1_1) := (blk_cell BK240.out 1).trans rfl; have hfz5_0 := blk_frozen BK240.out 0; have hfz5_1 := blk_frozen BK240.out 1))
  go_ret
  exact ⟨_, by first | rfl | (simp [errW_none, errW_some] <;> rfl) | (simp [*, errW_none, errW_some] <;> rfl), by first | exact Kd.R_nil _ _ _ _ _ | exact Kd.N_nil _ _ _ _ _ | exact Kd.V_nil _ _ _ _ _ | exact Kd.Q_nil _ _ _ _ _ | exact Kd.S_nil _ _ _ _ _, by repeat (first | (with_reducible first | exact HB.out | apply below_alloc | apply pw_below_drewN | apply below_drew1 | refine below_set ?_ GE240.out) | exact HB.out)⟩
 ·rw [if_neg c3] at H
  have c3b0 : decide (a1_1 < 1) = false := decide_eq_false c3
  clear c3
  obtain ⟨y241, hy241⟩ : ∃ y_ : List (S24), y_ = (([] : List (S24))) := ⟨_, rfl⟩
  replace H : (if y241.length + l0.length < 8796093022208 then ((some (y241 ++ l0 : List (S24))).bind fun y244 => ((some (([(⟨a1_0, a1_1⟩ : S24)] : List (S24)) : List (S24))).bind fun y247 => (if y244.length + y247.length < 8796093022208 then ((spec_rangeMarks.f k (y244 ++ y247)).bind fun t253 => (spec_RangeParts.l0 k l0 ([] : List (S31)) t253 0 a1_0 a1_1)) else (none)))) else (none)) = some r := by first | (rw [hy241]; with_reducible exact H) | (have H2_ := (Option.bind_some _ _).symm.trans H; rw [hy241]; with_reducible exact H2_) | (have H2_ := (Option.bind_some _ _).symm.trans H; with_reducible exact H2_) | with_reducible exact H | (rw [hy241]; exact H) | exact H
  have Ny241 := Aside0.mk hy241
  clear hy241
  by_cases c6 : y241.length + l0.length < 8796093022208
  ·rw [if_pos c6] at H
   have LMc6 := Aside0.mk c6
   clear c6
   obtain ⟨y244, hy244⟩ : ∃ y_ : List (S24), y_ = (y241 ++ l0) := ⟨_, rfl⟩
   replace H : ((some (([(⟨a1_0, a1_1⟩ : S24)] : List (S24)) : List (S24))).bind fun y247 => (if y244.length + y247.length < 8796093022208 then ((spec_rangeMarks.f k (y244 ++ y247)).bind fun t253 => (spec_RangeParts.l0 k l0 ([] : List (S31)) t253 0 a1_0 a1_1)) else (none))) = some r := by first | (rw [hy244]; with_reducible exact H) | (have H2_ := (Option.bind_some _ _).symm.trans H; rw [hy244]; with_reducible exact H2_) | (have H2_ := (Option.bind_some _ _).symm.trans H; with_reducible exact H2_) | with_reducible exact H | (rw [hy244]; exact H) | exact H
   have Ny244 := Aside0.mk hy244
   clear hy244
   obtain ⟨y247, hy247⟩ : ∃ y_ : List (S24), y_ = (([(⟨a1_0, a1_1⟩ : S24)] : List (S24))) := ⟨_, rfl⟩
   replace H : (if y244.length + y247.length < 8796093022208 then ((spec_rangeMarks.f k (y244 ++ y247)).bind fun t253 => (spec_RangeParts.l0 k l0 ([] : List (S31)) t253 0 a1_0 a1_1)) else (none)) = some r := by first | (rw [hy247]; with_reducible exact H) | (have H2_ := (Option.bind_some _ _).symm.trans H; rw [hy247]; with_reducible exact H2_) | (have H2_ := (Option.bind_some _ _).symm.trans H; with_reducible exact H2_) | with_reducible exact H | (rw [hy247]; exact H) | exact H
   have Ny247 := Aside0.mk hy247
   clear hy247
   by_cases c7 : y244.length + y247.length < 8796093022208
   ·rw [if_pos c7] at H
    have LMc7 := Aside0.mk c7
    clear c7
    obtain ⟨y250, hy250⟩ : ∃ y_ : List (S24), y_ = (y244 ++ y247) := ⟨_, rfl⟩
    replace H : ((spec_rangeMarks.f k y250).bind fun t253 => (spec_RangeParts.l0 k l0 ([] : List (S31)) t253 0 a1_0 a1_1)) = some r := by first | (rw [hy250]; with_reducible exact H) | (have H2_ := (Option.bind_some _ _).symm.trans H; rw [hy250]; with_reducible exact H2_) | (have H2_ := (Option.bind_some _ _).symm.trans H; with_reducible exact H2_) | with_reducible exact H | (rw [hy250]; exact H) | exact H
    have Ny250 := Aside0.mk hy250
    clear hy250
    replace H := Option.bind_eq_some_iff.mp H
    obtain ⟨t253, A80, H⟩ := H
    replace H : (spec_RangeParts.l0 k l0 ([] : List (S31)) t253 0 a1_0 a1_1) = some r := H
    have A8 := Aside0.mk A80
    clear A80
    have H' := Aside0.mk H
    clear H
    go_enter Try.func15, Try.ntmps15
    try go_wp2_with (first | ((with_reducible refine gate_dst (N := 3) rfl ?_); refine box_event ?hg (N := 3) ?hd (cs := #[.int .i64 a1_0, .int .i64 a1_1]) (t := 24) ?hr ?_; (case hd => rfl); (case hg => rfl); (case hr => first | (go_simp; done) | (go_simp; rfl)); intro gb240 hg w9 hbox hb; have n0_ := Aside0.mk (below_step (by repeat (first | (with_reducible first | exact HB.out | apply below_alloc | apply pw_below_drewN | apply below_drew1) | exact HB.out)) hb); have n1_ := Aside0.mk (hbox); have n2_ := Aside0.mk ((by rw [hg]; exact (below_size (by repeat (first | (with_reducible first | exact HB.out | apply below_alloc | apply pw_below_drewN | apply below_drew1) | exact HB.out))) : w.heap.size ≤ gb240)); have n3_ := Aside0.mk ((by rw [hg]; exact (below_size (by repeat (first | (with_reducible first | exact HB.out | apply below_alloc | apply pw_below_drewN | apply below_drew1) | exact HB.out))) : w.heap.size ≤ gb240)); clear HB; have HB := n0_; have BK240 := n1_; have GW240 := n2_; have GE240 := n3_; clear n0_ n1_ n2_ n3_; clear hb hbox hg; have hcz10_0 : w9.cell? ⟨gb240, 0, none⟩ = some (.int .i64 a1_0) := (blk_cell BK240.out 0).trans rfl; have hcz10_1 : w9.cell? ⟨gb240, 1, none⟩ = some (.int .i64 a1_1) := (blk_cell BK240.out 1).trans rfl; have hfz10_0 := blk_frozen BK240.out 0; have hfz10_1 := blk_frozen BK240.out 1))
    have n0_ := Aside0.mk (blk_drew BK240.out)
    have n1_ := Aside0.mk (below_drew1 HB.out)
    clear BK240
    clear HB
    have BK240 := n0_
    have HB := n1_
    clear n0_ n1_
    refine start_ (n := 8) (S := fun w' => w'.cell? ⟨gb240, 0, none⟩ = some (.int .i64 a1_0) ∧ w'.cell? ⟨gb240, 1, none⟩ = some (.int .i64 a1_1)) (ds := []) #[false, false, false, false, false, false, false, false] (by kernel_rfl) rfl rfl ⟨(blk_cell BK240.out 0).trans rfl, (blk_cell BK240.out 1).trans rfl⟩ (fun hHeld => ?_); refine with_tabW spec_RangeParts.tab4 spec_RangeParts.bits4 (fun HT_ HW_ => ?_)
    generalize w9.drew = w11 at BK240 HB hHeld ⊢
    refine pure_ (i := 1) (N := some 16) (v := ?_) (a' := ?_) #[false, true, false, false, false, false, false, false] rfl rfl (any_of HT_.out (by kernel_rfl)) (fun _ _ _ h => h) (Or.inl ⟨by rfl, ?_⟩) ?_ ?_
    rotate_left
    ·intro w'
     go_simp
     with_reducible rfl
    rotate_left
    ·simp only [Act.put, List.setIfInBounds_toArray, List.set_cons_zero, List.set_cons_succ, i64_w, i32_w]
     rfl
    refine take_ (i := 3) (N := some 18) (v := ?_) (a' := ?_) #[false, true, false, true, false, false, false, false] rfl rfl (take_ofW HT_.out HW_.out (by kernel_rfl)) (fun _ _ _ h => h) (Or.inl ⟨by rfl, ?_⟩) hHeld ?_ ?_
    rotate_left
    ·rintro w' ⟨s0, s1⟩
     go_simp
     with_reducible rfl
    rotate_left
    ·simp only [Act.put, List.setIfInBounds_toArray, List.set_cons_zero, List.set_cons_succ, i64_w, i32_w]
     rfl
    refine join_ (σ := Value × Value × Value) 3 #[true, true, true, true, true, false, false, false] (fun s_ => [(15, s_.1), (17, s_.2.1), (19, s_.2.2)]) (fun s_ w' => (w'.cell? ⟨gb240, 0, none⟩ = some (.int .i64 a1_0) ∧ w'.cell? ⟨gb240, 1, none⟩ = some (.int .i64 a1_1)) ∧ (Kd.R k24 24 w' w.heap.size (fun k_ => some k_ ≠ (s_.2.2 : Value).ownBlock ∧ k_ ≠ gb240) s_.2.1 y244) ∧ (Kd.R k24 24 w' w.heap.size (fun k_ => some k_ ≠ (s_.2.1 : Value).ownBlock ∧ k_ ≠ gb240) s_.2.2 y247) ∧ (w'.heap[gb240]? = some (.cells #[.int .i64 a1_0, .int .i64 a1_1] 24 (0, 0))) ∧ (Below w.heap.size w w')) ?_ ?_
    rotate_left
    ·intro hCont
     refine two_ (i := 0) (j := 4) (Ni := some 15) (Nj := some 19) #[true, true, false, true, false, false, false, false] #[false, true, false, true, true, false, false, false] rfl rfl rfl rfl (two_of HT_.out (by kernel_rfl)) (by decide) (by decide) (fun K hK => ?_) (fun K hK => ?_)
     ·skip
      refine Kd.R_lit_step k24 _ 24 ?hg (N := 15) ?hd (xs := ([] : List (S24))) (inner := []) (ok := fun _ => True) (okp := fun _ => True) ?hr ?hp (fun _ hk => hk) trivial (Below.refl _ _) (Nat.le_refl _) (by simp) ?_; (case hd => rfl); (case hg => rfl); (case hr => first | (go_simp; done) | (go_simp; rfl)); (case hp => exact (Reps.none _ _))
      intro v242 w12 ho13 hb hg_ hnew_
      clear hg_ hnew_
      (first | rw [← Ny241.out] at ho13 | (simp only [Int.reduceToNat] at ho13; rw [← Ny241.out] at ho13))
      have n0_ := Aside0.mk (Kd.R_lower (Kd.R_newB ho13 (g := gb240) (o := .cells #[.int .i64 a1_0, .int .i64 a1_1] 24 (0, 0)) (by (with_reducible repeat (first | refine blk_drewN ?_ _ | refine blk_drew ?_ | refine blk_alloc ?_ _)); exact BK240.out)) (below_size (by repeat (first | (with_reducible first | exact HB.out | apply below_alloc | apply pw_below_drewN | apply below_drew1 | refine below_set ?_ GE240.out) | exact HB.out))))
      have n1_ := Aside0.mk (blk_below (g := gb240) (o := .cells #[.int .i64 a1_0, .int .i64 a1_1] 24 (0, 0)) (by (with_reducible repeat (first | refine blk_drewN ?_ _ | refine blk_drew ?_ | refine blk_alloc ?_ _)); exact BK240.out) hb)
      have n2_ := Aside0.mk (below_step (by repeat (first | (with_reducible first | exact HB.out | apply below_alloc | apply pw_below_drewN | apply below_drew1 | refine below_set ?_ GE240.out) | exact HB.out)) hb)
      clear BK240
      clear HB
      have HO243 := n0_
      have BK240 := n1_
      have HB := n2_
      clear n0_ n1_ n2_
      clear hb ho13
      refine hK.out _ _ ⟨(blk_cell BK240.out 0).trans rfl, (blk_cell BK240.out 1).trans rfl⟩ (fun hHeld => ?_)
      clear hK K
      refine norm_ (a' := ?_) ?_ ?_
      rotate_left
      ·show Act.put _ (some 15) _ = _
       simp only [Act.put, List.setIfInBounds_toArray, List.set_cons_zero, List.set_cons_succ, i64_w, i32_w]
       rfl
      refine two_ (i := 2) (j := 4) (Ni := some 17) (Nj := some 19) #[true, true, true, true, false, false, false, false] #[true, true, false, true, true, false, false, false] rfl rfl rfl rfl (two_of HT_.out (by kernel_rfl)) (by decide) (by decide) (fun K hK => ?_) (fun K hK => ?_)
      ·skip
       refine Kd.R_append_rows_step k24 (w0 := w) w.heap.size (by rfl) (.tmp 15) (.tmp 16) 22 24 (.agg #[(.int .i64 0), (.int .i64 0)]) 16 rfl Try.underlying22 info24 rfl (by decide) (by omega) v242 y241 l0 _ _ _ (fun k_ => k_ ≠ gb240) (fun _ => False) rfl rfl ?aO ?aR (fun _ _ h => h) (fun _ h => h.elim) ?aF ?aB ?aS ?aL ?_
       (case aR => repeat (first | exact (Kd.C_below HR0.out HB.out) | (with_reducible refine Kd.C_alloc ?_ _) | (with_reducible refine Kd.C_drewN ?_ _) | (with_reducible refine Kd.C_drew ?_)))
       (case aB => exact (by repeat (first | (with_reducible first | exact HB.out | apply below_alloc | apply pw_below_drewN | apply below_drew1 | refine below_set ?_ GE240.out) | exact HB.out)))
       (case aF => exact (fun k_ hk => Kd.freshB (g := gb240) (o := .cells #[.int .i64 a1_0, .int .i64 a1_1] 24 (0, 0)) (by (with_reducible repeat (first | refine blk_drewN ?_ _ | refine blk_drew ?_ | refine blk_alloc ?_ _)); exact BK240.out) k_ hk))
       (case aO => exact (by (with_reducible repeat (first | apply Kd.R_alloc | apply Kd.R_drewN | apply Kd.R_drew)); exact Kd.R_mono HO243.out (fun _ hk => hk.2)))
       (case aS => exact (below_size (by repeat (first | (with_reducible first | exact HB.out | apply below_alloc | apply pw_below_drewN | apply below_drew1 | refine below_set ?_ GE240.out) | exact HB.out))))
       (case aL => have := LMc6.out; omega)
       intro v245 w14 ho hb hg hat
       rw [← Ny244.out] at ho
       have n0_ := Aside0.mk (blk_grown (g := gb240) (o := .cells #[.int .i64 a1_0, .int .i64 a1_1] 24 (0, 0)) (by (with_reducible repeat (first | refine blk_drewN ?_ _ | refine blk_drew ?_ | refine blk_alloc ?_ _)); exact BK240.out) hg (Kd.R_away HO243.out (fun _ hk => hk.2)))
       have n1_ := Aside0.mk (hb)
       have n2_ := Aside0.mk (ho)
       clear BK240
       clear HB
       clear HO243
       have BK240 := n0_
       have HB := n1_
       have HO246 := n2_
       clear n0_ n1_ n2_
       clear ho hb hg hat
       refine hK.out _ _ ⟨(blk_cell BK240.out 0).trans rfl, (blk_cell BK240.out 1).trans rfl⟩ (fun hHeld => ?_)
       clear hK K
       refine norm_ (a' := ?_) ?_ ?_
       rotate_left
       ·show Act.put _ (some 17) _ = _
        simp only [Act.put, List.setIfInBounds_toArray, List.set_cons_zero, List.set_cons_succ, i64_w, i32_w]
        rfl
       refine one_ (i := 4) (N := some 19) #[true, true, true, true, true, false, false, false] rfl rfl (one_of HT_.out (by kernel_rfl)) (by decide) (fun K hK => ?_)
       refine Kd.R_lit_step k24 _ 24 ?hg (N := 19) ?hd (xs := ([(⟨a1_0, a1_1⟩ : S24)] : List (S24))) (inner := [.int .i64 a1_0, .int .i64 a1_1]) (ok := fun _ => True) (okp := fun _ => True) ?hr ?hp (fun _ hk => hk) trivial (Below.refl _ _) (Nat.le_refl _) (by simp) ?_; (case hd => rfl); (case hg => rfl); (case hr => first | (go_simp; done) | (go_simp; rfl)); (case hp => exact (Reps.c2 (show Kd.M k24 _ _ _ (⟨a1_0, a1_1⟩ : S24) [.int .i64 a1_0, .int .i64 a1_1] from (k24_mkM _ _ _ (⟨a1_0, a1_1⟩ : S24) )) (Reps.none _ _)))
       intro v248 w15 ho16 hb hg_ hnew_
       clear hg_ hnew_
       (first | rw [← Ny247.out] at ho16 | (simp only [Int.reduceToNat] at ho16; rw [← Ny247.out] at ho16))
       have n0_ := Aside0.mk (Kd.R_elder' (by (with_reducible repeat (first | apply Kd.R_alloc | apply Kd.R_drewN | apply Kd.R_drew)); exact HO246.out) (Kd.R_base ho16) hb)
       have n1_ := Aside0.mk (Kd.R_lower (Kd.R_newB (Kd.R_new' ho16 (Kd.R_lt (by (with_reducible repeat (first | apply Kd.R_alloc | apply Kd.R_drewN | apply Kd.R_drew)); exact HO246.out))) (g := gb240) (o := .cells #[.int .i64 a1_0, .int .i64 a1_1] 24 (0, 0)) (by (with_reducible repeat (first | refine blk_drewN ?_ _ | refine blk_drew ?_ | refine blk_alloc ?_ _)); exact BK240.out)) (below_size (by repeat (first | (with_reducible first | exact HB.out | apply below_alloc | apply pw_below_drewN | apply below_drew1 | refine below_set ?_ GE240.out) | exact HB.out))))
       have n2_ := Aside0.mk (blk_below (g := gb240) (o := .cells #[.int .i64 a1_0, .int .i64 a1_1] 24 (0, 0)) (by (with_reducible repeat (first | refine blk_drewN ?_ _ | refine blk_drew ?_ | refine blk_alloc ?_ _)); exact BK240.out) hb)
       have n3_ := Aside0.mk (below_step (by repeat (first | (with_reducible first | exact HB.out | apply below_alloc | apply pw_below_drewN | apply below_drew1 | refine below_set ?_ GE240.out) | exact HB.out)) hb)
       clear HO246
       clear BK240
       clear HB
       have HO246 := n0_
       have HO249 := n1_
       have BK240 := n2_
       have HB := n3_
       clear n0_ n1_ n2_ n3_
       clear hb ho16
       refine hK.out _ _ ⟨(blk_cell BK240.out 0).trans rfl, (blk_cell BK240.out 1).trans rfl⟩ (fun hHeld => ?_)
       clear hK K
       refine norm_ (a' := ?_) ?_ ?_
       rotate_left
       ·show Act.put _ (some 19) _ = _
        simp only [Act.put, List.setIfInBounds_toArray, List.set_cons_zero, List.set_cons_succ, i64_w, i32_w]
        rfl
       exact norm_ (by simp only [putAll, Act.put, List.setIfInBounds_toArray, List.set_cons_zero, List.set_cons_succ]) (hCont (v242, v245, v248) _ ⟨hHeld, (by (with_reducible repeat (first | apply Kd.R_alloc | apply Kd.R_drewN | apply Kd.R_drew)); exact Kd.R_mono HO246.out (fun _ hk => ⟨hk.2, hk.1⟩)), (by (with_reducible repeat (first | apply Kd.R_alloc | apply Kd.R_drewN | apply Kd.R_drew)); exact Kd.R_mono HO249.out (fun _ hk => ⟨hk.1.2, hk.2⟩)), (by (with_reducible repeat (first | refine blk_drewN ?_ _ | refine blk_drew ?_ | refine blk_alloc ?_ _)); exact BK240.out), (by repeat (first | (with_reducible first | exact HB.out | apply below_alloc | apply pw_below_drewN | apply below_drew1 | refine below_set ?_ GE240.out) | exact HB.out))⟩)
      ·skip
       refine Kd.R_lit_step k24 _ 24 ?hg (N := 19) ?hd (xs := ([(⟨a1_0, a1_1⟩ : S24)] : List (S24))) (inner := [.int .i64 a1_0, .int .i64 a1_1]) (ok := fun _ => True) (okp := fun _ => True) ?hr ?hp (fun _ hk => hk) trivial (Below.refl _ _) (Nat.le_refl _) (by simp) ?_; (case hd => rfl); (case hg => rfl); (case hr => first | (go_simp; done) | (go_simp; rfl)); (case hp => exact (Reps.c2 (show Kd.M k24 _ _ _ (⟨a1_0, a1_1⟩ : S24) [.int .i64 a1_0, .int .i64 a1_1] from (k24_mkM _ _ _ (⟨a1_0, a1_1⟩ : S24) )) (Reps.none _ _)))
       intro v248 w14 ho15 hb hg_ hnew_
       clear hg_ hnew_
       (first | rw [← Ny247.out] at ho15 | (simp only [Int.reduceToNat] at ho15; rw [← Ny247.out] at ho15))
       have n0_ := Aside0.mk (Kd.R_elder' (by (with_reducible repeat (first | apply Kd.R_alloc | apply Kd.R_drewN | apply Kd.R_drew)); exact HO243.out) (Kd.R_base ho15) hb)
       have n1_ := Aside0.mk (Kd.R_lower (Kd.R_newB (Kd.R_new' ho15 (Kd.R_lt (by (with_reducible repeat (first | apply Kd.R_alloc | apply Kd.R_drewN | apply Kd.R_drew)); exact HO243.out))) (g := gb240) (o := .cells #[.int .i64 a1_0, .int .i64 a1_1] 24 (0, 0)) (by (with_reducible repeat (first | refine blk_drewN ?_ _ | refine blk_drew ?_ | refine blk_alloc ?_ _)); exact BK240.out)) (below_size (by repeat (first | (with_reducible first | exact HB.out | apply below_alloc | apply pw_below_drewN | apply below_drew1 | refine below_set ?_ GE240.out) | exact HB.out))))
       have n2_ := Aside0.mk (blk_below (g := gb240) (o := .cells #[.int .i64 a1_0, .int .i64 a1_1] 24 (0, 0)) (by (with_reducible repeat (first | refine blk_drewN ?_ _ | refine blk_drew ?_ | refine blk_alloc ?_ _)); exact BK240.out) hb)
       have n3_ := Aside0.mk (below_step (by repeat (first | (with_reducible first | exact HB.out | apply below_alloc | apply pw_below_drewN | apply below_drew1 | refine below_set ?_ GE240.out) | exact HB.out)) hb)
       clear HO243
       clear BK240
       clear HB
       have HO243 := n0_
       have HO249 := n1_
       have BK240 := n2_
       have HB := n3_
       clear n0_ n1_ n2_ n3_
       clear hb ho15
       refine hK.out _ _ ⟨(blk_cell BK240.out 0).trans rfl, (blk_cell BK240.out 1).trans rfl⟩ (fun hHeld => ?_)
       clear hK K
       refine norm_ (a' := ?_) ?_ ?_
       rotate_left
       ·show Act.put _ (some 19) _ = _
        simp only [Act.put, List.setIfInBounds_toArray, List.set_cons_zero, List.set_cons_succ, i64_w, i32_w]
        rfl
       refine one_ (i := 2) (N := some 17) #[true, true, true, true, true, false, false, false] rfl rfl (one_of HT_.out (by kernel_rfl)) (by decide) (fun K hK => ?_)
       refine Kd.R_append_rows_step k24 (w0 := w) w.heap.size (by rfl) (.tmp 15) (.tmp 16) 22 24 (.agg #[(.int .i64 0), (.int .i64 0)]) 16 rfl Try.underlying22 info24 rfl (by decide) (by omega) v242 y241 l0 _ _ _ (fun k_ => some k_ ≠ (v248 : Value).ownBlock ∧ k_ ≠ gb240) (fun _ => False) rfl rfl ?aO ?aR (fun _ _ h => h) (fun _ h => h.elim) ?aF ?aB ?aS ?aL ?_
       (case aR => repeat (first | exact (Kd.C_below HR0.out HB.out) | (with_reducible refine Kd.C_alloc ?_ _) | (with_reducible refine Kd.C_drewN ?_ _) | (with_reducible refine Kd.C_drew ?_)))
       (case aB => exact (by repeat (first | (with_reducible first | exact HB.out | apply below_alloc | apply pw_below_drewN | apply below_drew1 | refine below_set ?_ GE240.out) | exact HB.out)))
       (case aF => exact (fun k_ hk => ⟨Kd.fresh' (Kd.R_lt (by (with_reducible repeat (first | apply Kd.R_alloc | apply Kd.R_drewN | apply Kd.R_drew)); exact HO249.out)) k_ hk, Kd.freshB (g := gb240) (o := .cells #[.int .i64 a1_0, .int .i64 a1_1] 24 (0, 0)) (by (with_reducible repeat (first | refine blk_drewN ?_ _ | refine blk_drew ?_ | refine blk_alloc ?_ _)); exact BK240.out) k_ hk⟩))
       (case aO => exact (by (with_reducible repeat (first | apply Kd.R_alloc | apply Kd.R_drewN | apply Kd.R_drew)); exact Kd.R_mono HO243.out (fun _ hk => ⟨hk.2, hk.1.2⟩)))
       (case aS => exact (below_size (by repeat (first | (with_reducible first | exact HB.out | apply below_alloc | apply pw_below_drewN | apply below_drew1 | refine below_set ?_ GE240.out) | exact HB.out))))
       (case aL => have := LMc6.out; omega)
       intro v245 w16 ho hb hg hat
       rw [← Ny244.out] at ho
       have n0_ := Aside0.mk (blk_grown (g := gb240) (o := .cells #[.int .i64 a1_0, .int .i64 a1_1] 24 (0, 0)) (by (with_reducible repeat (first | refine blk_drewN ?_ _ | refine blk_drew ?_ | refine blk_alloc ?_ _)); exact BK240.out) hg (Kd.R_away HO243.out (fun _ hk => hk.1.2)))
       have n1_ := Aside0.mk (Kd.R_after (ok := (fun k_ => k_ ≠ gb240)) (by (with_reducible repeat (first | apply Kd.R_alloc | apply Kd.R_drewN | apply Kd.R_drew)); exact Kd.R_mono HO249.out (fun _ hk => ⟨hk.2, hk.1.2⟩)) hg hat)
       have n2_ := Aside0.mk (hb)
       have n3_ := Aside0.mk (ho)
       clear BK240
       clear HO249
       clear HB
       clear HO243
       have BK240 := n0_
       have HO249 := n1_
       have HB := n2_
       have HO246 := n3_
       clear n0_ n1_ n2_ n3_
       clear ho hb hg hat
       refine hK.out _ _ ⟨(blk_cell BK240.out 0).trans rfl, (blk_cell BK240.out 1).trans rfl⟩ (fun hHeld => ?_)
       clear hK K
       refine norm_ (a' := ?_) ?_ ?_
       rotate_left
       ·show Act.put _ (some 17) _ = _
        simp only [Act.put, List.setIfInBounds_toArray, List.set_cons_zero, List.set_cons_succ, i64_w, i32_w]
        rfl
       exact norm_ (by simp only [putAll, Act.put, List.setIfInBounds_toArray, List.set_cons_zero, List.set_cons_succ]) (hCont (v242, v245, v248) _ ⟨hHeld, (by (with_reducible repeat (first | apply Kd.R_alloc | apply Kd.R_drewN | apply Kd.R_drew)); exact HO246.out), (by (with_reducible repeat (first | apply Kd.R_alloc | apply Kd.R_drewN | apply Kd.R_drew)); exact Kd.R_mono HO249.out (fun _ hk => ⟨hk.2, hk.1⟩)), (by (with_reducible repeat (first | refine blk_drewN ?_ _ | refine blk_drew ?_ | refine blk_alloc ?_ _)); exact BK240.out), (by repeat (first | (with_reducible first | exact HB.out | apply below_alloc | apply pw_below_drewN | apply below_drew1 | refine below_set ?_ GE240.out) | exact HB.out))⟩)
     ·skip
      refine Kd.R_lit_step k24 _ 24 ?hg (N := 19) ?hd (xs := ([(⟨a1_0, a1_1⟩ : S24)] : List (S24))) (inner := [.int .i64 a1_0, .int .i64 a1_1]) (ok := fun _ => True) (okp := fun _ => True) ?hr ?hp (fun _ hk => hk) trivial (Below.refl _ _) (Nat.le_refl _) (by simp) ?_; (case hd => rfl); (case hg => rfl); (case hr => first | (go_simp; done) | (go_simp; rfl)); (case hp => exact (Reps.c2 (show Kd.M k24 _ _ _ (⟨a1_0, a1_1⟩ : S24) [.int .i64 a1_0, .int .i64 a1_1] from (k24_mkM _ _ _ (⟨a1_0, a1_1⟩ : S24) )) (Reps.none _ _)))
      intro v248 w12 ho13 hb hg_ hnew_
      clear hg_ hnew_
      (first | rw [← Ny247.out] at ho13 | (simp only [Int.reduceToNat] at ho13; rw [← Ny247.out] at ho13))
      have n0_ := Aside0.mk (Kd.R_lower (Kd.R_newB ho13 (g := gb240) (o := .cells #[.int .i64 a1_0, .int .i64 a1_1] 24 (0, 0)) (by (with_reducible repeat (first | refine blk_drewN ?_ _ | refine blk_drew ?_ | refine blk_alloc ?_ _)); exact BK240.out)) (below_size (by repeat (first | (with_reducible first | exact HB.out | apply below_alloc | apply pw_below_drewN | apply below_drew1 | refine below_set ?_ GE240.out) | exact HB.out))))
      have n1_ := Aside0.mk (blk_below (g := gb240) (o := .cells #[.int .i64 a1_0, .int .i64 a1_1] 24 (0, 0)) (by (with_reducible repeat (first | refine blk_drewN ?_ _ | refine blk_drew ?_ | refine blk_alloc ?_ _)); exact BK240.out) hb)
      have n2_ := Aside0.mk (below_step (by repeat (first | (with_reducible first | exact HB.out | apply below_alloc | apply pw_below_drewN | apply below_drew1 | refine below_set ?_ GE240.out) | exact HB.out)) hb)
      clear BK240
      clear HB
      have HO249 := n0_
      have BK240 := n1_
      have HB := n2_
      clear n0_ n1_ n2_
      clear hb ho13
      refine hK.out _ _ ⟨(blk_cell BK240.out 0).trans rfl, (blk_cell BK240.out 1).trans rfl⟩ (fun hHeld => ?_)
      clear hK K
      refine norm_ (a' := ?_) ?_ ?_
      rotate_left
      ·show Act.put _ (some 19) _ = _
       simp only [Act.put, List.setIfInBounds_toArray, List.set_cons_zero, List.set_cons_succ, i64_w, i32_w]
       rfl
      refine one_ (i := 0) (N := some 15) #[true, true, false, true, true, false, false, false] rfl rfl (one_of HT_.out (by kernel_rfl)) (by decide) (fun K hK => ?_)
      refine Kd.R_lit_step k24 _ 24 ?hg (N := 15) ?hd (xs := ([] : List (S24))) (inner := []) (ok := fun _ => True) (okp := fun _ => True) ?hr ?hp (fun _ hk => hk) trivial (Below.refl _ _) (Nat.le_refl _) (by simp) ?_; (case hd => rfl); (case hg => rfl); (case hr => first | (go_simp; done) | (go_simp; rfl)); (case hp => exact (Reps.none _ _))
      intro v242 w14 ho15 hb hg_ hnew_
      clear hg_ hnew_
      (first | rw [← Ny241.out] at ho15 | (simp only [Int.reduceToNat] at ho15; rw [← Ny241.out] at ho15))
      have n0_ := Aside0.mk (Kd.R_elder' (by (with_reducible repeat (first | apply Kd.R_alloc | apply Kd.R_drewN | apply Kd.R_drew)); exact HO249.out) (Kd.R_base ho15) hb)
      have n1_ := Aside0.mk (Kd.R_lower (Kd.R_newB (Kd.R_new' ho15 (Kd.R_lt (by (with_reducible repeat (first | apply Kd.R_alloc | apply Kd.R_drewN | apply Kd.R_drew)); exact HO249.out))) (g := gb240) (o := .cells #[.int .i64 a1_0, .int .i64 a1_1] 24 (0, 0)) (by (with_reducible repeat (first | refine blk_drewN ?_ _ | refine blk_drew ?_ | refine blk_alloc ?_ _)); exact BK240.out)) (below_size (by repeat (first | (with_reducible first | exact HB.out | apply below_alloc | apply pw_below_drewN | apply below_drew1 | refine below_set ?_ GE240.out) | exact HB.out))))
      have n2_ := Aside0.mk (blk_below (g := gb240) (o := .cells #[.int .i64 a1_0, .int .i64 a1_1] 24 (0, 0)) (by (with_reducible repeat (first | refine blk_drewN ?_ _ | refine blk_drew ?_ | refine blk_alloc ?_ _)); exact BK240.out) hb)
      have n3_ := Aside0.mk (below_step (by repeat (first | (with_reducible first | exact HB.out | apply below_alloc | apply pw_below_drewN | apply below_drew1 | refine below_set ?_ GE240.out) | exact HB.out)) hb)
      clear HO249
      clear BK240
      clear HB
      have HO249 := n0_
      have HO243 := n1_
      have BK240 := n2_
      have HB := n3_
      clear n0_ n1_ n2_ n3_
      clear hb ho15
      refine hK.out _ _ ⟨(blk_cell BK240.out 0).trans rfl, (blk_cell BK240.out 1).trans rfl⟩ (fun hHeld => ?_)
      clear hK K
      refine norm_ (a' := ?_) ?_ ?_
      rotate_left
      ·show Act.put _ (some 15) _ = _
       simp only [Act.put, List.setIfInBounds_toArray, List.set_cons_zero, List.set_cons_succ, i64_w, i32_w]
       rfl
      refine one_ (i := 2) (N := some 17) #[true, true, true, true, true, false, false, false] rfl rfl (one_of HT_.out (by kernel_rfl)) (by decide) (fun K hK => ?_)
      refine Kd.R_append_rows_step k24 (w0 := w) w.heap.size (by rfl) (.tmp 15) (.tmp 16) 22 24 (.agg #[(.int .i64 0), (.int .i64 0)]) 16 rfl Try.underlying22 info24 rfl (by decide) (by omega) v242 y241 l0 _ _ _ (fun k_ => some k_ ≠ (v248 : Value).ownBlock ∧ k_ ≠ gb240) (fun _ => False) rfl rfl ?aO ?aR (fun _ _ h => h) (fun _ h => h.elim) ?aF ?aB ?aS ?aL ?_
      (case aR => repeat (first | exact (Kd.C_below HR0.out HB.out) | (with_reducible refine Kd.C_alloc ?_ _) | (with_reducible refine Kd.C_drewN ?_ _) | (with_reducible refine Kd.C_drew ?_)))
      (case aB => exact (by repeat (first | (with_reducible first | exact HB.out | apply below_alloc | apply pw_below_drewN | apply below_drew1 | refine below_set ?_ GE240.out) | exact HB.out)))
      (case aF => exact (fun k_ hk => ⟨Kd.fresh' (Kd.R_lt (by (with_reducible repeat (first | apply Kd.R_alloc | apply Kd.R_drewN | apply Kd.R_drew)); exact HO249.out)) k_ hk, Kd.freshB (g := gb240) (o := .cells #[.int .i64 a1_0, .int .i64 a1_1] 24 (0, 0)) (by (with_reducible repeat (first | refine blk_drewN ?_ _ | refine blk_drew ?_ | refine blk_alloc ?_ _)); exact BK240.out) k_ hk⟩))
      (case aO => exact (by (with_reducible repeat (first | apply Kd.R_alloc | apply Kd.R_drewN | apply Kd.R_drew)); exact Kd.R_mono HO243.out (fun _ hk => ⟨hk.1.2, hk.2⟩)))
      (case aS => exact (below_size (by repeat (first | (with_reducible first | exact HB.out | apply below_alloc | apply pw_below_drewN | apply below_drew1 | refine below_set ?_ GE240.out) | exact HB.out))))
      (case aL => have := LMc6.out; omega)
      intro v245 w16 ho hb hg hat
      rw [← Ny244.out] at ho
      have n0_ := Aside0.mk (blk_grown (g := gb240) (o := .cells #[.int .i64 a1_0, .int .i64 a1_1] 24 (0, 0)) (by (with_reducible repeat (first | refine blk_drewN ?_ _ | refine blk_drew ?_ | refine blk_alloc ?_ _)); exact BK240.out) hg (Kd.R_away HO243.out (fun _ hk => hk.2)))
      have n1_ := Aside0.mk (Kd.R_after (ok := (fun k_ => k_ ≠ gb240)) (by (with_reducible repeat (first | apply Kd.R_alloc | apply Kd.R_drewN | apply Kd.R_drew)); exact Kd.R_mono HO249.out (fun _ hk => ⟨hk.1.2, hk.2⟩)) hg hat)
      have n2_ := Aside0.mk (hb)
      have n3_ := Aside0.mk (ho)
      clear BK240
      clear HO249
      clear HB
      clear HO243
      have BK240 := n0_
      have HO249 := n1_
      have HB := n2_
      have HO246 := n3_
      clear n0_ n1_ n2_ n3_
      clear ho hb hg hat
      refine hK.out _ _ ⟨(blk_cell BK240.out 0).trans rfl, (blk_cell BK240.out 1).trans rfl⟩ (fun hHeld => ?_)
      clear hK K
      refine norm_ (a' := ?_) ?_ ?_
      rotate_left
      ·show Act.put _ (some 17) _ = _
       simp only [Act.put, List.setIfInBounds_toArray, List.set_cons_zero, List.set_cons_succ, i64_w, i32_w]
       rfl
      exact norm_ (by simp only [putAll, Act.put, List.setIfInBounds_toArray, List.set_cons_zero, List.set_cons_succ]) (hCont (v242, v245, v248) _ ⟨hHeld, (by (with_reducible repeat (first | apply Kd.R_alloc | apply Kd.R_drewN | apply Kd.R_drew)); exact HO246.out), (by (with_reducible repeat (first | apply Kd.R_alloc | apply Kd.R_drewN | apply Kd.R_drew)); exact Kd.R_mono HO249.out (fun _ hk => ⟨hk.2, hk.1⟩)), (by (with_reducible repeat (first | refine blk_drewN ?_ _ | refine blk_drew ?_ | refine blk_alloc ?_ _)); exact BK240.out), (by repeat (first | (with_reducible first | exact HB.out | apply below_alloc | apply pw_below_drewN | apply below_drew1 | refine below_set ?_ GE240.out) | exact HB.out))⟩)
    rintro ⟨v242, v245, v248⟩ w17 ⟨hS_, h0_, h1_, h2_, h3_⟩
    have n0_ : Aside0 (Kd.R k24 24 w17 w.heap.size (fun k_ => some k_ ≠ (v248 : Value).ownBlock ∧ k_ ≠ gb240) v245 y244) := ⟨h0_⟩
    have n1_ : Aside0 (Kd.R k24 24 w17 w.heap.size (fun k_ => some k_ ≠ (v245 : Value).ownBlock ∧ k_ ≠ gb240) v248 y247) := ⟨h1_⟩
    have n2_ : Aside0 (w17.heap[gb240]? = some (.cells #[.int .i64 a1_0, .int .i64 a1_1] 24 (0, 0))) := ⟨h2_⟩
    have n3_ : Aside0 (Below w.heap.size w w17) := ⟨h3_⟩
    clear BK240
    clear HB
    clear h0_ h1_ h2_ h3_
    have HO246 := n0_
    have HO249 := n1_
    have BK240 := n2_
    have HB := n3_
    clear n0_ n1_ n2_ n3_
    have hHeld : w17.cell? ⟨gb240, 0, none⟩ = some (.int .i64 a1_0) ∧ w17.cell? ⟨gb240, 1, none⟩ = some (.int .i64 a1_1) := hS_
    obtain ⟨Ao19, co19, eo19⟩ := Kd.R_slice HO249.out
    (first | subst eo19 | (injection eo19 with f1_ f2_ f3_; have f4_ := f1_.symm; have f5_ := f3_.symm; clear f1_ f2_ f3_; subst f4_; subst f5_))
    refine norm_ (a' := ?_) ?_ ?_
    rotate_left
    ·simp only [putAll, Act.put, List.setIfInBounds_toArray, List.set_cons_zero, List.set_cons_succ]
     rfl
    refine one_ (i := 5) (N := some 20) #[true, true, true, true, true, true, false, false] rfl rfl (one_of HT_.out (by kernel_rfl)) (by decide) (fun K hK => ?_)
    refine Kd.R_append_rows_step k24 (w0 := w) w.heap.size (by rfl) (.tmp 17) (.tmp 19) 22 24 (.agg #[(.int .i64 0), (.int .i64 0)]) 16 rfl Try.underlying22 info24 rfl (by decide) (by omega) v245 y244 y247 _ _ _ (fun k_ => some k_ ≠ (.slice Ao19 y247.length co19 : Value).ownBlock ∧ k_ ≠ gb240) (fun _ => False) rfl rfl ?aO ?aR (fun _ _ h => h) (fun _ h => h.elim) ?aF ?aB ?aS ?aL ?_
    (case aR => repeat (first | exact (Kd.R_reads' HO249.out).2.2 | (with_reducible refine Kd.C_alloc ?_ _) | (with_reducible refine Kd.C_drewN ?_ _) | (with_reducible refine Kd.C_drew ?_)))
    (case aB => exact (by repeat (first | (with_reducible first | exact HB.out | apply below_alloc | apply pw_below_drewN | apply below_drew1 | refine below_set ?_ GE240.out) | exact HB.out)))
    (case aF => exact (fun k_ hk => ⟨Kd.fresh' (Kd.R_lt (by (with_reducible repeat (first | apply Kd.R_alloc | apply Kd.R_drewN | apply Kd.R_drew)); exact HO249.out)) k_ hk, Kd.freshB (g := gb240) (o := .cells #[.int .i64 a1_0, .int .i64 a1_1] 24 (0, 0)) (by (with_reducible repeat (first | refine blk_drewN ?_ _ | refine blk_drew ?_ | refine blk_alloc ?_ _)); exact BK240.out) k_ hk⟩))
    (case aO => exact (by (with_reducible repeat (first | apply Kd.R_alloc | apply Kd.R_drewN | apply Kd.R_drew)); exact HO246.out))
    (case aS => exact (below_size (by repeat (first | (with_reducible first | exact HB.out | apply below_alloc | apply pw_below_drewN | apply below_drew1 | refine below_set ?_ GE240.out) | exact HB.out))))
    (case aL => have := LMc7.out; omega)
    intro v251 w18 ho hb hg hat
    rw [← Ny250.out] at ho
    have n0_ := Aside0.mk (blk_grown (g := gb240) (o := .cells #[.int .i64 a1_0, .int .i64 a1_1] 24 (0, 0)) (by (with_reducible repeat (first | refine blk_drewN ?_ _ | refine blk_drew ?_ | refine blk_alloc ?_ _)); exact BK240.out) hg (Kd.R_away HO246.out (fun _ hk => hk.2)))
    have n1_ := Aside0.mk (Kd.R_after (ok := (fun k_ => k_ ≠ gb240)) (by (with_reducible repeat (first | apply Kd.R_alloc | apply Kd.R_drewN | apply Kd.R_drew)); exact Kd.R_mono HO249.out (fun _ hk => ⟨hk.2, hk.1⟩)) hg hat)
    have n2_ := Aside0.mk (hb)
    have n3_ := Aside0.mk (ho)
    clear BK240
    clear HO249
    clear HB
    clear HO246
    have BK240 := n0_
    have HO249 := n1_
    have HB := n2_
    have HO252 := n3_
    clear n0_ n1_ n2_ n3_
    clear ho hb hg hat
    obtain ⟨Ao20, co20, eo20⟩ := Kd.R_slice HO252.out
    (first | subst eo20 | (injection eo20 with f1_ f2_ f3_; have f4_ := f1_.symm; have f5_ := f3_.symm; clear f1_ f2_ f3_; subst f4_; subst f5_))
    refine hK.out _ _ ⟨(blk_cell BK240.out 0).trans rfl, (blk_cell BK240.out 1).trans rfl⟩ (fun hHeld => ?_)
    clear hK K
    refine norm_ (a' := ?_) ?_ ?_
    rotate_left
    ·show Act.put _ (some 20) _ = _
     simp only [Act.put, List.setIfInBounds_toArray, List.set_cons_zero, List.set_cons_succ, i64_w, i32_w]
     rfl
    refine one_ (i := 6) (N := some 21) #[true, true, true, true, true, true, true, false] rfl rfl (one_of HT_.out (by kernel_rfl)) (by decide) (fun K hK => ?_)
    refine goes_ Try.func36 (by kernel_rfl) rfl #[.slice Ao20 y250.length co20] (by rfl) rfl rfl (by (try simp only [List.map_toArray, List.map_cons, List.map_nil]); first | done | rfl | (simp only [List.length_drop, List.length_take]; rfl)) ?_
    with_reducible refine (spec_rangeMarks.calls k _ _ y250 t253 _ ?side1 ?side2 A8.out).mono ?_
    (case side1 => repeat (first | exact (Kd.R_reads' HO252.out).2.2 | (with_reducible refine Kd.C_alloc ?_ _) | (with_reducible refine Kd.C_drewN ?_ _) | (with_reducible refine Kd.C_drew ?_)))
    (case side2 => exact (Kd.R_reads' HO252.out).2.1)
    rintro e w21 ⟨v254, rfl, ho0, hb⟩
    refine ⟨_, rfl, ?_⟩
    have n0_ := Aside0.mk (Kd.R_below (by (with_reducible repeat (first | apply Kd.R_alloc | apply Kd.R_drewN | apply Kd.R_drew)); exact HO249.out) hb)
    have n1_ := Aside0.mk (Kd.R_below (by (with_reducible repeat (first | apply Kd.R_alloc | apply Kd.R_drewN | apply Kd.R_drew)); exact HO252.out) hb)
    have n2_ := Aside0.mk (Kd.R_lower ho0 (below_size (by repeat (first | (with_reducible first | exact HB.out | apply below_alloc | apply pw_below_drewN | apply below_drew1 | refine below_set ?_ GE240.out) | exact HB.out))))
    have n3_ := Aside0.mk (blk_below (g := gb240) (o := .cells #[.int .i64 a1_0, .int .i64 a1_1] 24 (0, 0)) (by (with_reducible repeat (first | refine blk_drewN ?_ _ | refine blk_drew ?_ | refine blk_alloc ?_ _)); exact BK240.out) hb)
    have n4_ := Aside0.mk (below_step (by repeat (first | (with_reducible first | exact HB.out | apply below_alloc | apply pw_below_drewN | apply below_drew1 | refine below_set ?_ GE240.out) | exact HB.out)) hb)
    clear HO249
    clear HO252
    clear BK240
    clear HB
    have HO249 := n0_
    have HO252 := n1_
    have HO255 := n2_
    have BK240 := n3_
    have HB := n4_
    clear n0_ n1_ n2_ n3_ n4_
    (try clear hb)
    (try clear hb2)
    (try clear hk)
    (try clear hi)
    (try clear ho0)
    refine hK.out _ _ ⟨(blk_cell BK240.out 0).trans rfl, (blk_cell BK240.out 1).trans rfl⟩ (fun hHeld => ?_)
    clear hK K
    refine norm_ (a' := ?_) ?_ ?_
    rotate_left
    ·show Act.put _ (some 21) _ = _
     simp only [Act.put, List.setIfInBounds_toArray, List.set_cons_zero, List.set_cons_succ, i64_w, i32_w]
     rfl
    refine pure_ (i := 7) (N := some 6) (v := ?_) (a' := ?_) #[true, true, true, true, true, true, true, true] rfl rfl (any_of HT_.out (by kernel_rfl)) (fun _ _ _ h => h) (Or.inl ⟨by rfl, ?_⟩) ?_ ?_
    rotate_left
    ·intro w'
     go_simp
     with_reducible rfl
    rotate_left
    ·simp only [Act.put, List.setIfInBounds_toArray, List.set_cons_zero, List.set_cons_succ, i64_w, i32_w]
     rfl
    refine done_ (done_of HT_.out (by kernel_rfl)) ?_
    try go_wp2
    go_loopg [5, 7] k (fun kq v5 v7 w' => ∃ (x5_1 : List (S31)) (x7_1 : Int), v7 = .int .i64 x7_1 ∧ Aside0 (spec_RangeParts.l0 kq l0 x5_1 t253 x7_1 a1_0 a1_1 = some r) ∧ Aside0 (kq ≤ k) ∧ Aside0 (Kd.R k31 31 w' w.heap.size (fun _ => True) v5 x5_1) ∧ Aside0 (Kd.R (Kd.int .i64) 3 w' w.heap.size (fun _ => True) v254 t253) ∧ Aside0 (w'.heap[gb240]? = some (.cells #[.int .i64 a1_0, .int .i64 a1_1] 24 (0, 0))) ∧ Aside0 (Below w.heap.size w w'))
    case atStart => exact ⟨(([] : List (S31))), (0), (by first | rfl | (simp; done) | (simp [*]; done)), H', ⟨Nat.le_refl _⟩, ⟨by first | exact Kd.R_nil _ _ _ _ _ | exact Kd.N_nil _ _ _ _ _ | exact Kd.V_nil _ _ _ _ _ | exact Kd.Q_nil _ _ _ _ _ | exact Kd.S_nil _ _ _ _ _⟩, ⟨by (with_reducible repeat (first | apply Kd.R_alloc | apply Kd.R_drewN | apply Kd.R_drew)); exact HO255.out⟩, ⟨by (with_reducible repeat (first | refine blk_drewN ?_ _ | refine blk_drew ?_ | refine blk_alloc ?_ _)); exact BK240.out⟩, ⟨by repeat (first | (with_reducible first | exact HB.out | apply below_alloc | apply pw_below_drewN | apply below_drew1 | refine below_set ?_ GE240.out) | exact HB.out)⟩⟩
    case round =>
     clear H'
     try clear c1
     try clear c2
     try clear p2
     try clear c3
     try clear c3b0
     try clear c6
     try clear c7
     try clear c15
     try clear hcz10_0
     try clear hcz10_1
     try clear hcz5_0
     try clear hcz5_1
     try clear hfz10_0
     try clear hfz10_1
     try clear hfz5_0
     try clear hfz5_1
     obtain ⟨x5_1, x7_1, rfl, HA, HK1, HO_5, HO_6, BK240, HB⟩ := hrel
     cases gk with
     | zero => exact absurd HA.out (by simp [spec_RangeParts.l0])
     | succ k1 =>
      have H := HA.out
      clear HA
      simp only [spec_RangeParts.l0] at H
      by_cases c22 : (wrap64 (x7_1 + 1)) < (t253.length : Int)
      ·rw [if_pos c22] at H
       have c22b0 : decide ((wrap64 (x7_1 + 1)) < (t253.length : Int)) = true := decide_eq_true c22
       clear c22
       by_cases c23 : 0 ≤ x7_1
       ·rw [if_pos c23] at H
        have c23b0 : decide (0 ≤ x7_1) = true := decide_eq_true c23
        clear c23
        by_cases c24 : x7_1 < (t253.length : Int)
        ·rw [if_pos c24] at H
         have c24b0 : decide (x7_1 < (t253.length : Int)) = true := decide_eq_true c24
         clear c24
         obtain ⟨ji25, hji25⟩ : ∃ j_ : Int, (wrap64 (x7_1 + 1)) = j_ := ⟨_, rfl⟩
         replace H : (if 0 ≤ (ji25) then (if (rd t253 x7_1) < a1_0 then (spec_RangeParts.j1 k1 l0 x5_1 t253 x7_1 (rd t253 x7_1) (rd t253 (ji25)) true a1_0 a1_1) else (spec_RangeParts.j1 k1 l0 x5_1 t253 x7_1 (rd t253 x7_1) (rd t253 (ji25)) (decide ((rd t253 (ji25)) > (wrap64 (a1_0 + a1_1)))) a1_0 a1_1)) else (none)) = some r := by first | (rw [hji25] at H; exact H) | (simp only [hji25] at H ⊢; exact H)
         (try rw [hji25] at c22b0)
         have hji25w : (IntKind.i64.wrap (x7_1 + 1)) = ji25 := (i64_w _).trans hji25
         by_cases c26 : 0 ≤ (ji25)
         ·rw [if_pos c26] at H
          have c26b0 : decide (0 ≤ (ji25)) = true := decide_eq_true c26
          clear c26
          have HC27 := Aside0.mk H
          clear H
          obtain ⟨Ao28, co28, eo28⟩ := Kd.R_slice HO_6.out
          subst eo28
          try go_wp2
          have n0_ := Aside0.mk (Kd.R_drew HO_5.out)
          have n1_ := Aside0.mk (Kd.R_drew HO_6.out)
          have n2_ := Aside0.mk (blk_drew BK240.out)
          have n3_ := Aside0.mk (below_drew1 HB.out)
          clear HO_5
          clear HO_6
          clear BK240
          clear HB
          have HO_5 := n0_
          have HO_6 := n1_
          have BK240 := n2_
          have HB := n3_
          clear n0_ n1_ n2_ n3_
          have p256 : 0 ≤ (x7_1 : Int) := of_decide_eq_true (by first | (with_reducible assumption) | assumption)
          have q256 : x7_1 < (t253.length : Int) := of_decide_eq_true (by first | (with_reducible assumption) | assumption)
          obtain ⟨ad256, e256, hx256_0⟩ := Kd.at_int (Kd.R_reads' HO_6.out).2.2 x7_1 p256 q256
          cases e256
          replace p256 := eq_true p256
          replace q256 := eq_true q256
          have p257 : 0 ≤ ((ji25) : Int) := of_decide_eq_true (by first | (with_reducible assumption) | assumption)
          have q257 : (ji25) < (t253.length : Int) := of_decide_eq_true (by first | (with_reducible assumption) | assumption)
          obtain ⟨ad257, e257, hx257_0⟩ := Kd.at_int (Kd.R_reads' HO_6.out).2.2 (ji25) p257 q257
          obtain rfl : ad256 = ad257 := (by injection e257)
          replace p257 := eq_true p257
          replace q257 := eq_true q257
          refine start_ (n := 11) (S := fun w' => w'.cell? (ad256.add (x7_1).toNat) = some (.int .i64 (rd t253 x7_1)) ∧ w'.cell? (ad256.add ((ji25)).toNat) = some (.int .i64 (rd t253 (ji25)))) (ds := []) #[false, false, false, false, false, false, false, false, false, false, false] (by kernel_rfl) rfl rfl ⟨hx256_0, hx257_0⟩ (fun hHeld => ?_); refine with_tabW spec_RangeParts.tab8 spec_RangeParts.bits8 (fun HT_ HW_ => ?_)
          generalize wr.drew = w29 at HO_5 HO_6 BK240 HB hx256_0 hx257_0 hHeld ⊢
          refine pure_ (i := 0) (N := some 29) (v := ?_) (a' := ?_) #[true, false, false, false, false, false, false, false, false, false, false] rfl rfl (any_of HT_.out (by kernel_rfl)) (fun _ _ _ h => h) (Or.inl ⟨by rfl, ?_⟩) ?_ ?_
          rotate_left
          ·intro w'
           go_simp
           with_reducible rfl
          rotate_left
          ·simp only [Act.put, List.setIfInBounds_toArray, List.set_cons_zero, List.set_cons_succ, i64_w, i32_w]
           rfl
          refine pure_ (i := 1) (N := some 30) (v := ?_) (a' := ?_) #[true, true, false, false, false, false, false, false, false, false, false] rfl rfl (any_of HT_.out (by kernel_rfl)) (fun _ _ _ h => h) (Or.inl ⟨by rfl, ?_⟩) ?_ ?_
          rotate_left
          ·intro w'
           go_simp
           with_reducible rfl
          rotate_left
          ·simp only [Act.put, List.setIfInBounds_toArray, List.set_cons_zero, List.set_cons_succ, i64_w, i32_w]
           rfl
          refine pure_ (i := 2) (N := some 31) (v := ?_) (a' := ?_) #[true, true, true, false, false, false, false, false, false, false, false] rfl rfl (any_of HT_.out (by kernel_rfl)) (fun _ _ _ h => h) (Or.inl ⟨by rfl, ?_⟩) ?_ ?_
          rotate_left
          ·intro w'
           go_simp
           with_reducible rfl
          rotate_left
          ·simp only [Act.put, List.setIfInBounds_toArray, List.set_cons_zero, List.set_cons_succ, i64_w, i32_w]
           rfl
          refine pure_ (i := 4) (N := some 33) (v := ?_) (a' := ?_) #[true, true, true, false, true, false, false, false, false, false, false] rfl rfl (any_of HT_.out (by kernel_rfl)) (fun _ _ _ h => h) (Or.inl ⟨by rfl, ?_⟩) ?_ ?_
          rotate_left
          ·intro w'
           go_simp
           with_reducible rfl
          rotate_left
          ·simp only [Act.put, List.setIfInBounds_toArray, List.set_cons_zero, List.set_cons_succ, i64_w, i32_w]
           rfl
          refine pure_ (i := 5) (N := some 34) (v := ?_) (a' := ?_) #[true, true, true, false, true, true, false, false, false, false, false] rfl rfl (any_of HT_.out (by kernel_rfl)) (fun _ _ _ h => h) (Or.inl ⟨by rfl, ?_⟩) ?_ ?_
          rotate_left
          ·intro w'
           go_simp
           with_reducible rfl
          rotate_left
          ·simp only [Act.put, List.setIfInBounds_toArray, List.set_cons_zero, List.set_cons_succ, i64_w, i32_w]
           rfl
          refine pure_ (i := 6) (N := some 35) (v := ?_) (a' := ?_) #[true, true, true, false, true, true, true, false, false, false, false] rfl rfl (any_of HT_.out (by kernel_rfl)) (fun _ _ _ h => h) (Or.inl ⟨by rfl, ?_⟩) ?_ ?_
          rotate_left
          ·intro w'
           go_simp
           with_reducible rfl
          rotate_left
          ·simp only [Act.put, List.setIfInBounds_toArray, List.set_cons_zero, List.set_cons_succ, i64_w, i32_w]
           rfl
          refine pure_ (i := 7) (N := some 36) (v := ?_) (a' := ?_) #[true, true, true, false, true, true, true, true, false, false, false] rfl rfl (any_of HT_.out (by kernel_rfl)) (fun _ _ _ h => h) (Or.inl ⟨by rfl, ?_⟩) ?_ ?_
          rotate_left
          ·intro w'
           go_simp
           with_reducible rfl
          rotate_left
          ·simp only [Act.put, List.setIfInBounds_toArray, List.set_cons_zero, List.set_cons_succ, i64_w, i32_w]
           rfl
          refine take_ (i := 3) (N := some 32) (v := ?_) (a' := ?_) #[true, true, true, true, true, true, true, true, false, false, false] rfl rfl (take_ofW HT_.out HW_.out (by kernel_rfl)) (fun _ _ _ h => h) (Or.inl ⟨by rfl, ?_⟩) hHeld ?_ ?_
          rotate_left
          ·rintro w' ⟨s0, s1⟩
           go_simp
           with_reducible rfl
          rotate_left
          ·simp only [Act.put, List.setIfInBounds_toArray, List.set_cons_zero, List.set_cons_succ, i64_w, i32_w]
           rfl
          refine pure_ (i := 9) (N := some 8) (v := ?_) (a' := ?_) #[true, true, true, true, true, true, true, true, false, true, false] rfl rfl (any_of HT_.out (by kernel_rfl)) (fun _ _ _ h => h) (Or.inl ⟨by rfl, ?_⟩) ?_ ?_
          rotate_left
          ·intro w'
           go_simp
           with_reducible rfl
          rotate_left
          ·simp only [Act.put, List.setIfInBounds_toArray, List.set_cons_zero, List.set_cons_succ, i64_w, i32_w]
           rfl
          refine take_ (i := 8) (N := some 37) (v := ?_) (a' := ?_) #[true, true, true, true, true, true, true, true, true, true, false] rfl rfl (take_ofW HT_.out HW_.out (by kernel_rfl)) (fun _ _ _ h => h) (Or.inl ⟨by rfl, ?_⟩) hHeld ?_ ?_
          rotate_left
          ·rintro w' ⟨s0, s1⟩
           go_simp
           with_reducible rfl
          rotate_left
          ·simp only [Act.put, List.setIfInBounds_toArray, List.set_cons_zero, List.set_cons_succ, i64_w, i32_w]
           rfl
          refine pure_ (i := 10) (N := some 9) (v := ?_) (a' := ?_) #[true, true, true, true, true, true, true, true, true, true, true] rfl rfl (any_of HT_.out (by kernel_rfl)) (fun _ _ _ h => h) (Or.inl ⟨by rfl, ?_⟩) ?_ ?_
          rotate_left
          ·intro w'
           go_simp
           with_reducible rfl
          rotate_left
          ·simp only [Act.put, List.setIfInBounds_toArray, List.set_cons_zero, List.set_cons_succ, i64_w, i32_w]
           rfl
          refine done_ (done_of HT_.out (by kernel_rfl)) ?_
          go_upto_region 9 with (fail)
          go_cut [50] (fun v50 wc => ∃ (kq : Nat) (x50_26 : Bool), v50 = .bool x50_26 ∧ Aside0 (spec_RangeParts.j1 kq l0 x5_1 t253 x7_1 (rd t253 x7_1) (rd t253 (ji25)) x50_26 a1_0 a1_1 = some r) ∧ Aside0 (kq ≤ k1) ∧ Aside0 (Kd.R k31 31 wc w.heap.size (fun _ => True) u5 x5_1) ∧ Aside0 (Kd.R (Kd.int .i64) 3 wc w.heap.size (fun _ => True) (.slice (some ad256) t253.length co28) t253) ∧ Aside0 (wc.heap[gb240]? = some (.cells #[.int .i64 a1_0, .int .i64 a1_1] 24 (0, 0))) ∧ Aside0 (Below w.heap.size w wc))
          case first =>
           have H := HC27.out
           clear HC27
           by_cases c30 : (rd t253 x7_1) < a1_0
           ·rw [if_pos c30] at H
            have c30b0 : decide ((rd t253 x7_1) < a1_0) = true := decide_eq_true c30
            clear c30
            (first | rw [c30b0] | (simp only [i64_w, i32_w]; rw [c30b0]) | skip)
            have H' := Aside0.mk H
            clear H
            have hcz31_0 : w29.cell? ⟨gb240, 0, none⟩ = some (.int .i64 a1_0) := (blk_cell BK240.out 0).trans rfl
            have hcz31_1 : w29.cell? ⟨gb240, 1, none⟩ = some (.int .i64 a1_1) := (blk_cell BK240.out 1).trans rfl
            have hfz31_0 := blk_frozen BK240.out 0
            have hfz31_1 := blk_frozen BK240.out 1
            go_wp2
            go_meet
            case rel => exact ⟨_, (true), (by first | rfl | (simp; done) | (simp [*]; done)), H', ⟨by have := HK1.out; first | omega | exact Nat.le_refl _⟩, ⟨by (with_reducible repeat (first | apply Kd.R_alloc | apply Kd.R_drewN | apply Kd.R_drew)); exact HO_5.out⟩, ⟨by (with_reducible repeat (first | apply Kd.R_alloc | apply Kd.R_drewN | apply Kd.R_drew)); exact HO_6.out⟩, ⟨by (with_reducible repeat (first | refine blk_drewN ?_ _ | refine blk_drew ?_ | refine blk_alloc ?_ _)); exact BK240.out⟩, ⟨by repeat (first | (with_reducible first | exact HB.out | apply below_alloc | apply pw_below_drewN | apply below_drew1 | refine below_set ?_ GE240.out) | exact HB.out)⟩⟩
           ·rw [if_neg c30] at H
            have c30b0 : decide ((rd t253 x7_1) < a1_0) = false := decide_eq_false c30
            clear c30
            (first | rw [c30b0] | (simp only [i64_w, i32_w]; rw [c30b0]) | skip)
            have H' := Aside0.mk H
            clear H
            have hcz32_0 : w29.cell? ⟨gb240, 0, none⟩ = some (.int .i64 a1_0) := (blk_cell BK240.out 0).trans rfl
            have hcz32_1 : w29.cell? ⟨gb240, 1, none⟩ = some (.int .i64 a1_1) := (blk_cell BK240.out 1).trans rfl
            have hfz32_0 := blk_frozen BK240.out 0
            have hfz32_1 := blk_frozen BK240.out 1
            go_wp2
            go_meet
            case rel => exact ⟨_, (decide ((rd t253 (ji25)) > (wrap64 (a1_0 + a1_1)))), (by first | rfl | (simp; done) | (simp only [← hji25] <;> (first | rfl | simp)) | (simp [*]; done)), H', ⟨by have := HK1.out; first | omega | exact Nat.le_refl _⟩, ⟨by (with_reducible repeat (first | apply Kd.R_alloc | apply Kd.R_drewN | apply Kd.R_drew)); exact HO_5.out⟩, ⟨by (with_reducible repeat (first | apply Kd.R_alloc | apply Kd.R_drewN | apply Kd.R_drew)); exact HO_6.out⟩, ⟨by (with_reducible repeat (first | refine blk_drewN ?_ _ | refine blk_drew ?_ | refine blk_alloc ?_ _)); exact BK240.out⟩, ⟨by repeat (first | (with_reducible first | exact HB.out | apply below_alloc | apply pw_below_drewN | apply below_drew1 | refine below_set ?_ GE240.out) | exact HB.out)⟩⟩
          case rest =>
           clear HC27
           try clear c1
           try clear c2
           try clear p2
           try clear q2
           try clear hx2
           try clear c3
           try clear c3b0
           try clear c6
           try clear p6
           try clear c7
           try clear c15
           try clear c22
           try clear c22b0
           try clear c23
           try clear c23b0
           try clear c24
           try clear c24b0
           try clear p25
           try clear q25
           try clear hx25
           try clear c26
           try clear c26b0
           try clear c30
           try clear c30b0
           try clear hcz10_0
           try clear hcz10_1
           try clear hcz31_0
           try clear hcz31_1
           try clear hcz32_0
           try clear hcz32_1
           try clear hcz5_0
           try clear hcz5_1
           try clear hfz10_0
           try clear hfz10_1
           try clear hfz31_0
           try clear hfz31_1
           try clear hfz32_0
           try clear hfz32_1
           try clear hfz5_0
           try clear hfz5_1
           try clear hx256_0
           try clear hx257_0
           try clear p2
           try clear p256
           try clear p257
           try clear q256
           try clear q257
           obtain ⟨kq, x50_26, rfl, HA, HJ26, HO_5, HO_6, BK240, HB⟩ := hcut
           cases kq with
           | zero => exact absurd HA.out (by simp [spec_RangeParts.j1])
           | succ kj26 =>
            have H := HA.out
            clear HA
            simp only [spec_RangeParts.j1] at H
            by_cases c33 : x50_26 = true
            ·subst c33
             have H1 : (spec_RangeParts.l0 kj26 l0 x5_1 t253 (wrap64 (x7_1 + 1)) a1_0 a1_1) = some r := by rw [if_pos rfl] at H; exact H
             clear H
             have H := H1
             clear H1
             have H' := Aside0.mk H
             clear H
             go_wp2
             go_roundg kj26
             case measure => have := HK1.out; have := HJ26.out; omega
             case rel => exact ⟨(x5_1), (wrap64 (x7_1 + 1)), (by first | rfl | (simp; done) | (simp [*]; done)), H', ⟨by have := HK1.out; have := HJ26.out; omega⟩, ⟨by (with_reducible repeat (first | apply Kd.R_alloc | apply Kd.R_drewN | apply Kd.R_drew)); exact HO_5.out⟩, ⟨by (with_reducible repeat (first | apply Kd.R_alloc | apply Kd.R_drewN | apply Kd.R_drew)); exact HO_6.out⟩, ⟨by (with_reducible repeat (first | refine blk_drewN ?_ _ | refine blk_drew ?_ | refine blk_alloc ?_ _)); exact BK240.out⟩, ⟨by repeat (first | (with_reducible first | exact HB.out | apply below_alloc | apply pw_below_drewN | apply below_drew1 | refine below_set ?_ GE240.out) | exact HB.out)⟩⟩
            ·replace c33 := Bool.eq_false_iff.mpr c33
             subst c33
             have H1 : ((spec_RangeHas.f kj26 l0 (rd t253 x7_1)).bind fun t258 => (if (x5_1.length : Int) > 0 then (if 0 ≤ (wrap64 ((x5_1.length : Int) - 1)) then (if (wrap64 ((x5_1.length : Int) - 1)) < (x5_1.length : Int) then (if (((rd_T31 x5_1 (wrap64 ((x5_1.length : Int) - 1))).f1) == t258) = true then (spec_RangeParts.l0 kj26 l0 (x5_1.set ((wrap64 ((x5_1.length : Int) - 1)) : Int).toNat (⟨(⟨(rd_T31 x5_1 (wrap64 ((x5_1.length : Int) - 1))).f0.f0, wrap64 (((rd_T31 x5_1 (wrap64 ((x5_1.length : Int) - 1))).f0.f1) + (wrap64 ((rd t253 (ji25)) - (rd t253 x7_1))))⟩ : S24), (rd_T31 x5_1 (wrap64 ((x5_1.length : Int) - 1))).f1⟩ : S31)) t253 (wrap64 (x7_1 + 1)) a1_0 a1_1) else ((some (([(⟨(⟨(rd t253 x7_1), wrap64 ((rd t253 (ji25)) - (rd t253 x7_1))⟩ : S24), t258⟩ : S31)] : List (S31)) : List (S31))).bind fun y262 => (if x5_1.length + y262.length < 5864062014805 then (spec_RangeParts.l0 kj26 l0 (x5_1 ++ y262) t253 (wrap64 (x7_1 + 1)) a1_0 a1_1) else (none)))) else (none)) else (none)) else ((some (([(⟨(⟨(rd t253 x7_1), wrap64 ((rd t253 (ji25)) - (rd t253 x7_1))⟩ : S24), t258⟩ : S31)] : List (S31)) : List (S31))).bind fun y268 => (if x5_1.length + y268.length < 5864062014805 then (spec_RangeParts.l0 kj26 l0 (x5_1 ++ y268) t253 (wrap64 (x7_1 + 1)) a1_0 a1_1) else (none))))) = some r := by rw [if_neg (show ¬ (false = true) by decide)] at H; exact H
             clear H
             have H := H1
             clear H1
             replace H := Option.bind_eq_some_iff.mp H
             obtain ⟨t258, A340, H⟩ := H
             replace H : (if (x5_1.length : Int) > 0 then (if 0 ≤ (wrap64 ((x5_1.length : Int) - 1)) then (if (wrap64 ((x5_1.length : Int) - 1)) < (x5_1.length : Int) then (if (((rd_T31 x5_1 (wrap64 ((x5_1.length : Int) - 1))).f1) == t258) = true then (spec_RangeParts.l0 kj26 l0 (x5_1.set ((wrap64 ((x5_1.length : Int) - 1)) : Int).toNat (⟨(⟨(rd_T31 x5_1 (wrap64 ((x5_1.length : Int) - 1))).f0.f0, wrap64 (((rd_T31 x5_1 (wrap64 ((x5_1.length : Int) - 1))).f0.f1) + (wrap64 ((rd t253 (ji25)) - (rd t253 x7_1))))⟩ : S24), (rd_T31 x5_1 (wrap64 ((x5_1.length : Int) - 1))).f1⟩ : S31)) t253 (wrap64 (x7_1 + 1)) a1_0 a1_1) else ((some (([(⟨(⟨(rd t253 x7_1), wrap64 ((rd t253 (ji25)) - (rd t253 x7_1))⟩ : S24), t258⟩ : S31)] : List (S31)) : List (S31))).bind fun y262 => (if x5_1.length + y262.length < 5864062014805 then (spec_RangeParts.l0 kj26 l0 (x5_1 ++ y262) t253 (wrap64 (x7_1 + 1)) a1_0 a1_1) else (none)))) else (none)) else (none)) else ((some (([(⟨(⟨(rd t253 x7_1), wrap64 ((rd t253 (ji25)) - (rd t253 x7_1))⟩ : S24), t258⟩ : S31)] : List (S31)) : List (S31))).bind fun y268 => (if x5_1.length + y268.length < 5864062014805 then (spec_RangeParts.l0 kj26 l0 (x5_1 ++ y268) t253 (wrap64 (x7_1 + 1)) a1_0 a1_1) else (none)))) = some r := H
             have A34 := Aside0.mk A340
             clear A340
             by_cases c35 : (x5_1.length : Int) > 0
             ·rw [if_pos c35] at H
              have c35b0 : decide (0 < (x5_1.length : Int)) = true := decide_eq_true c35
              have c35b1 : decide (0 < x5_1.length) = true := decide_eq_true (by omega)
              clear c35
              obtain ⟨ji36, hji36⟩ : ∃ j_ : Int, (wrap64 ((x5_1.length : Int) - 1)) = j_ := ⟨_, rfl⟩
              replace H : (if 0 ≤ (ji36) then (if (ji36) < (x5_1.length : Int) then (if (((rd_T31 x5_1 (ji36)).f1) == t258) = true then (spec_RangeParts.l0 kj26 l0 (x5_1.set ((ji36) : Int).toNat (⟨(⟨(rd_T31 x5_1 (ji36)).f0.f0, wrap64 (((rd_T31 x5_1 (ji36)).f0.f1) + (wrap64 ((rd t253 (ji25)) - (rd t253 x7_1))))⟩ : S24), (rd_T31 x5_1 (ji36)).f1⟩ : S31)) t253 (wrap64 (x7_1 + 1)) a1_0 a1_1) else ((some (([(⟨(⟨(rd t253 x7_1), wrap64 ((rd t253 (ji25)) - (rd t253 x7_1))⟩ : S24), t258⟩ : S31)] : List (S31)) : List (S31))).bind fun y262 => (if x5_1.length + y262.length < 5864062014805 then (spec_RangeParts.l0 kj26 l0 (x5_1 ++ y262) t253 (wrap64 (x7_1 + 1)) a1_0 a1_1) else (none)))) else (none)) else (none)) = some r := by first | (rw [hji36] at H; exact H) | (simp only [hji36] at H ⊢; exact H)
              (try rw [hji36] at A34)
              have hji36w : (IntKind.i64.wrap ((x5_1.length : Int) - 1)) = ji36 := (i64_w _).trans hji36
              by_cases c37 : 0 ≤ (ji36)
              ·rw [if_pos c37] at H
               have c37b0 : decide (0 ≤ (ji36)) = true := decide_eq_true c37
               clear c37
               by_cases c38 : (ji36) < (x5_1.length : Int)
               ·rw [if_pos c38] at H
                have c38b0 : decide ((ji36) < (x5_1.length : Int)) = true := decide_eq_true c38
                clear c38
                by_cases c39 : (((rd_T31 x5_1 (ji36)).f1) == t258) = true
                ·rw [if_pos c39] at H
                 have c39b0 : (((rd_T31 x5_1 (ji36)).f1) == t258) = true := c39
                 (try (have c39b1 : decide (((rd_T31 x5_1 (ji36)).f1) = t258) = true := by simpa using c39))
                 (try (have c39b2 : (((rd_T31 x5_1 (ji36)).f1) == t258) = true := by simpa using c39))
                 clear c39
                 obtain ⟨y261, hy261⟩ : ∃ y_ : List (S31), y_ = (x5_1.set ((ji36) : Int).toNat (⟨(⟨(rd_T31 x5_1 (ji36)).f0.f0, wrap64 (((rd_T31 x5_1 (ji36)).f0.f1) + (wrap64 ((rd t253 (ji25)) - (rd t253 x7_1))))⟩ : S24), (rd_T31 x5_1 (ji36)).f1⟩ : S31)) := ⟨_, rfl⟩
                 replace H : (spec_RangeParts.l0 kj26 l0 y261 t253 (wrap64 (x7_1 + 1)) a1_0 a1_1) = some r := by first | (rw [hy261]; with_reducible exact H) | (have H2_ := (Option.bind_some _ _).symm.trans H; rw [hy261]; with_reducible exact H2_) | (have H2_ := (Option.bind_some _ _).symm.trans H; with_reducible exact H2_) | with_reducible exact H | (rw [hy261]; exact H) | exact H
                 have Ny261 := Aside0.mk hy261
                 clear hy261
                 have H' := Aside0.mk H
                 clear H
                 go_wp2_with (first | ((with_reducible refine gate_dst (N := 53) rfl ?_); refine goesL_ (some 53) rfl rfl Try.func37 (by kernel_rfl) rfl #[.slice A0 l0.length c0, .int .i64 (rd t253 x7_1)] rfl (by (try simp only [List.map_toArray, List.map_cons, List.map_nil]); first | done | rfl | (simp only [List.length_drop, List.length_take]; rfl)) ?_; (with_reducible refine (spec_RangeHas.calls kj26 _ _ l0 (rd t253 x7_1) t258 _ ?side1 ?side2 A34.out).mono ?_); (case side1 => repeat (first | exact (Kd.C_below HR0.out HB.out) | (with_reducible refine Kd.C_alloc ?_ _) | (with_reducible refine Kd.C_drewN ?_ _) | (with_reducible refine Kd.C_drew ?_))); (case side2 => exact HC0.out); rintro e w41 ⟨rfl, hb⟩; refine ⟨_, rfl, ?_⟩; have n0_ := Aside0.mk (Kd.R_below (by (with_reducible repeat (first | apply Kd.R_alloc | apply Kd.R_drewN | apply Kd.R_drew)); exact HO_5.out) hb); have n1_ := Aside0.mk (Kd.R_below (by (with_reducible repeat (first | apply Kd.R_alloc | apply Kd.R_drewN | apply Kd.R_drew)); exact HO_6.out) hb); have n2_ := Aside0.mk (blk_below (g := gb240) (o := .cells #[.int .i64 a1_0, .int .i64 a1_1] 24 (0, 0)) (by (with_reducible repeat (first | refine blk_drewN ?_ _ | refine blk_drew ?_ | refine blk_alloc ?_ _)); exact BK240.out) hb); have n3_ := Aside0.mk (below_step (by repeat (first | (with_reducible first | exact HB.out | apply below_alloc | apply pw_below_drewN | apply below_drew1 | refine below_set ?_ GE240.out) | exact HB.out)) hb); clear HO_5; clear HO_6; clear BK240; clear HB; have HO_5 := n0_; have HO_6 := n1_; have BK240 := n2_; have HB := n3_; clear n0_ n1_ n2_ n3_; (try clear hb); (try clear hb2); (try clear hk); (try clear hi); obtain ⟨Ao42, co42, eo42⟩ := Kd.R_slice HO_5.out; subst eo42; have p259 : 0 ≤ ((ji36) : Int) := of_decide_eq_true (by first | (with_reducible assumption) | assumption); have q259 : (ji36) < (x5_1.length : Int) := of_decide_eq_true (by first | (with_reducible assumption) | assumption); obtain ⟨ad259, e259, hx259_0, hx259_1, hx259_2⟩ := at_T31 (Kd.R_reads' HO_5.out).2.2 (ji36) p259 q259; cases e259; replace p259 := eq_true p259; replace q259 := eq_true q259; have p260 : 0 ≤ ((ji36) : Int) := of_decide_eq_true (by first | (with_reducible assumption) | assumption); have q260 : (ji36) < (x5_1.length : Int) := of_decide_eq_true (by first | (with_reducible assumption) | assumption); obtain ⟨ad260, e260, hx260_0, hx260_1, hx260_2⟩ := at_T31 (Kd.R_reads' HO_5.out).2.2 (ji36) p260 q260; obtain rfl : ad259 = ad260 := (by injection e260); replace p260 := eq_true p260; replace q260 := eq_true q260; have p40 : 0 ≤ ((ji36) : Int) := of_decide_eq_true (by first | (with_reducible assumption) | assumption); have q40 : ((ji36) : Int) < ((x5_1.length : Int) : Int) := of_decide_eq_true (by first | (with_reducible assumption) | assumption); obtain ⟨go40, co40, eo40, gb40, gl40, cl40, HG40⟩ := Kd.R_form HO_5.out (by omega); (first | cases eo40 | (injection eo40 with ea_ en_ ec_; (first | subst ea_ | (injection ea_ with ea_; subst ea_)); subst ec_; clear en_)); have GB40 := Aside0.mk gb40; have GG40 := Aside0.mk HG40; clear gb40 gl40 HG40; (first | simp only [add_plain] at hx259_0 | skip); (first | simp only [add_plain] at hx259_1 | skip); (first | simp only [add_plain] at hx259_2 | skip); (first | simp only [add_plain] at hx260_0 | skip); (first | simp only [add_plain] at hx260_1 | skip); (first | simp only [add_plain] at hx260_2 | skip); obtain ⟨ce40, hcl40, hM40, hcc40, hfr40⟩ := Kd.R_elem HO_5.out z31 ((ji36) : Int) p40 q40; obtain rfl := k31_openM hM40; have hx40_0 : w41.cell? ⟨go40, ((ji36) : Int).toNat * 3, none⟩ = some (.int .i64 ((rd_T31 x5_1 (ji36)).f0.f0)) := hcc40 0 _ rfl; have hx40_1 : w41.cell? ⟨go40, ((ji36) : Int).toNat * 3 + 1, none⟩ = some (.int .i64 ((rd_T31 x5_1 (ji36)).f0.f1)) := hcc40 1 _ rfl; have hx40_2 : w41.cell? ⟨go40, ((ji36) : Int).toNat * 3 + 2, none⟩ = some (.bool ((rd_T31 x5_1 (ji36)).f1)) := hcc40 2 _ rfl; have hf40_0 : w41.frozen? ⟨go40, ((ji36) : Int).toNat * 3, none⟩ = false := hfr40 0; have hf40_1 : w41.frozen? ⟨go40, ((ji36) : Int).toNat * 3 + 1, none⟩ = false := hfr40 1; have hf40_2 : w41.frozen? ⟨go40, ((ji36) : Int).toNat * 3 + 2, none⟩ = false := hfr40 2; clear hcl40 hcc40 hfr40 hM40; replace p40 := eq_true p40; replace q40 := eq_true q40; have HX43 := Aside0.mk (show Kd.R k31 31 w41 w.heap.size (fun _ => True) (.slice (some ⟨go40, 0, none⟩) x5_1.length co42) x5_1 from (by (with_reducible repeat (first | apply Kd.R_alloc | apply Kd.R_drewN | apply Kd.R_drew)); exact HO_5.out)); obtain ⟨ce43, hcl43, hM43, hcc43, hfr43⟩ := Kd.R_elem HX43.out z31 ((ji36) : Int) (of_decide_eq_true (by first | (with_reducible assumption) | assumption)) (by have h_ : ((ji36) : Int) < ((x5_1.length : Int) : Int) := of_decide_eq_true (by first | (with_reducible assumption) | assumption); first | exact h_ | (have e_ := (Kd.R_reads' HO_5.out).1; omega) | simpa using h_); obtain rfl := k31_openM hM43; have HP43 := Kd.R_seg HX43.out ((ji36) : Int) (of_decide_eq_true (by first | (with_reducible assumption) | assumption)) (by have h_ : ((ji36) : Int) < ((x5_1.length : Int) : Int) := of_decide_eq_true (by first | (with_reducible assumption) | assumption); first | exact h_ | (have e_ := (Kd.R_reads' HO_5.out).1; omega) | simpa using h_) (seg := [.int .i64 (wrap64 (((rd_T31 x5_1 (ji36)).f0.f1) + (wrap64 ((rd t253 (ji25)) - (rd t253 x7_1)))))]) (j := 1) hcl43 hcc43 (show 2 ≤ 3 from by decide) (x' := (⟨(⟨(rd_T31 x5_1 (ji36)).f0.f0, wrap64 (((rd_T31 x5_1 (ji36)).f0.f1) + (wrap64 ((rd t253 (ji25)) - (rd t253 x7_1))))⟩ : S24), (rd_T31 x5_1 (ji36)).f1⟩ : S31)) (k31_mkM _ _ _ (⟨(⟨(rd_T31 x5_1 (ji36)).f0.f0, wrap64 (((rd_T31 x5_1 (ji36)).f0.f1) + (wrap64 ((rd t253 (ji25)) - (rd t253 x7_1))))⟩ : S24), (rd_T31 x5_1 (ji36)).f1⟩ : S31) ) (fun _ hk => hk); have hx43_1 := hcc43 1 _ rfl; (try simp only [show (k31).sz = 3 from rfl, Nat.mul_one, Nat.add_zero] at hx43_1); have hf43_1 := hfr43 1; (try simp only [show (k31).sz = 3 from rfl, Nat.mul_one, Nat.add_zero] at hf43_1); clear hcl43 hcc43 hfr43 hM43) | ((with_reducible refine gate_store (t := 3) (p := 81) rfl ?_); refine store_event (t := 3) (p := 81) (v := ?vo_w44) (w1 := (w41.setCell ⟨go40, ((ji36) : Int).toNat * 3 + 1, none⟩ (.int .i64 (wrap64 (((rd_T31 x5_1 (ji36)).f0.f1) + (wrap64 ((rd t253 (ji25)) - (rd t253 x7_1)))))))) ?hg ?ho ?hn ?hr ?_; (case ho => rfl); (case hg => rfl); (case hn => rfl); (case hr => first | (go_simp; done) | (go_simp; rfl)); intro w44 hw; have hg : w41.grownBy w44 (some go40) := (by rw [hw]; exact HP43.2); have hp_ : Kd.R k31 31 w44 w.heap.size (fun _ => True) (.slice (some ⟨go40, 0, none⟩) x5_1.length co42) y261 := (by rw [hw, Ny261.out]; exact HP43.1); clear HP43; have n0_ := Aside0.mk (hp_); have n1_ := Aside0.mk (Kd.R_over' (v := (.slice (some ⟨go40, 0, none⟩) x5_1.length co42)) (by (with_reducible repeat (first | apply Kd.R_alloc | apply Kd.R_drewN | apply Kd.R_drew)); exact HO_6.out) (Kd.R_typed HO_5.out) (by decide) hg); have n2_ := Aside0.mk (blk_grown (g := gb240) (o := .cells #[.int .i64 a1_0, .int .i64 a1_1] 24 (0, 0)) (by (with_reducible repeat (first | refine blk_drewN ?_ _ | refine blk_drew ?_ | refine blk_alloc ?_ _)); exact BK240.out) hg (Kd.R_ne HO_5.out BK240.out (by decide))); have n3_ := Aside0.mk ((by rw [hw]; exact below_set (HB.out) GB40.out : Below w.heap.size w w44)); clear HO_5; clear HO_6; clear BK240; clear HB; have HO_5 := n0_; have HO_6 := n1_; have BK240 := n2_; have HB := n3_; clear n0_ n1_ n2_ n3_; clear hg hw hp_))
                 go_roundg kj26
                 case measure => have := HK1.out; have := HJ26.out; omega
                 case rel => exact ⟨(y261), (wrap64 (x7_1 + 1)), (by first | rfl | (simp; done) | (simp [*]; done)), H', ⟨by have := HK1.out; have := HJ26.out; omega⟩, ⟨by (with_reducible repeat (first | apply Kd.R_alloc | apply Kd.R_drewN | apply Kd.R_drew)); exact HO_5.out⟩, ⟨by (with_reducible repeat (first | apply Kd.R_alloc | apply Kd.R_drewN | apply Kd.R_drew)); exact HO_6.out⟩, ⟨by (with_reducible repeat (first | refine blk_drewN ?_ _ | refine blk_drew ?_ | refine blk_alloc ?_ _)); exact BK240.out⟩, ⟨by repeat (first | (with_reducible first | exact HB.out | apply below_alloc | apply pw_below_drewN | apply below_drew1 | refine below_set ?_ GE240.out) | exact HB.out)⟩⟩
                ·rw [if_neg c39] at H
                 have c39b0 : (((rd_T31 x5_1 (ji36)).f1) == t258) = false := by simpa using c39
                 (try (have c39b1 : decide (((rd_T31 x5_1 (ji36)).f1) = t258) = false := by simpa using c39))
                 (try (have c39b2 : (((rd_T31 x5_1 (ji36)).f1) == t258) = false := by simpa using c39))
                 (try (have c39b3 : ¬ (((rd_T31 x5_1 (ji36)).f1) = t258) := by simpa using c39))
                 clear c39
                 obtain ⟨y262, hy262⟩ : ∃ y_ : List (S31), y_ = (([(⟨(⟨(rd t253 x7_1), wrap64 ((rd t253 (ji25)) - (rd t253 x7_1))⟩ : S24), t258⟩ : S31)] : List (S31))) := ⟨_, rfl⟩
                 replace H : (if x5_1.length + y262.length < 5864062014805 then (spec_RangeParts.l0 kj26 l0 (x5_1 ++ y262) t253 (wrap64 (x7_1 + 1)) a1_0 a1_1) else (none)) = some r := by first | (rw [hy262]; with_reducible exact H) | (have H2_ := (Option.bind_some _ _).symm.trans H; rw [hy262]; with_reducible exact H2_) | (have H2_ := (Option.bind_some _ _).symm.trans H; with_reducible exact H2_) | with_reducible exact H | (rw [hy262]; exact H) | exact H
                 have Ny262 := Aside0.mk hy262
                 clear hy262
                 by_cases c45 : x5_1.length + y262.length < 5864062014805
                 ·rw [if_pos c45] at H
                  have LMc45 := Aside0.mk c45
                  clear c45
                  obtain ⟨y265, hy265⟩ : ∃ y_ : List (S31), y_ = (x5_1 ++ y262) := ⟨_, rfl⟩
                  replace H : (spec_RangeParts.l0 kj26 l0 y265 t253 (wrap64 (x7_1 + 1)) a1_0 a1_1) = some r := by first | (rw [hy265]; with_reducible exact H) | (have H2_ := (Option.bind_some _ _).symm.trans H; rw [hy265]; with_reducible exact H2_) | (have H2_ := (Option.bind_some _ _).symm.trans H; with_reducible exact H2_) | with_reducible exact H | (rw [hy265]; exact H) | exact H
                  have Ny265 := Aside0.mk hy265
                  clear hy265
                  have H' := Aside0.mk H
                  clear H
                  go_wp2_with (first | ((with_reducible refine gate_dst (N := 53) rfl ?_); refine goesL_ (some 53) rfl rfl Try.func37 (by kernel_rfl) rfl #[.slice A0 l0.length c0, .int .i64 (rd t253 x7_1)] rfl (by (try simp only [List.map_toArray, List.map_cons, List.map_nil]); first | done | rfl | (simp only [List.length_drop, List.length_take]; rfl)) ?_; (with_reducible refine (spec_RangeHas.calls kj26 _ _ l0 (rd t253 x7_1) t258 _ ?side1 ?side2 A34.out).mono ?_); (case side1 => repeat (first | exact (Kd.C_below HR0.out HB.out) | (with_reducible refine Kd.C_alloc ?_ _) | (with_reducible refine Kd.C_drewN ?_ _) | (with_reducible refine Kd.C_drew ?_))); (case side2 => exact HC0.out); rintro e w46 ⟨rfl, hb⟩; refine ⟨_, rfl, ?_⟩; have n0_ := Aside0.mk (Kd.R_below (by (with_reducible repeat (first | apply Kd.R_alloc | apply Kd.R_drewN | apply Kd.R_drew)); exact HO_5.out) hb); have n1_ := Aside0.mk (Kd.R_below (by (with_reducible repeat (first | apply Kd.R_alloc | apply Kd.R_drewN | apply Kd.R_drew)); exact HO_6.out) hb); have n2_ := Aside0.mk (blk_below (g := gb240) (o := .cells #[.int .i64 a1_0, .int .i64 a1_1] 24 (0, 0)) (by (with_reducible repeat (first | refine blk_drewN ?_ _ | refine blk_drew ?_ | refine blk_alloc ?_ _)); exact BK240.out) hb); have n3_ := Aside0.mk (below_step (by repeat (first | (with_reducible first | exact HB.out | apply below_alloc | apply pw_below_drewN | apply below_drew1 | refine below_set ?_ GE240.out) | exact HB.out)) hb); clear HO_5; clear HO_6; clear BK240; clear HB; have HO_5 := n0_; have HO_6 := n1_; have BK240 := n2_; have HB := n3_; clear n0_ n1_ n2_ n3_; (try clear hb); (try clear hb2); (try clear hk); (try clear hi); obtain ⟨Ao47, co47, eo47⟩ := Kd.R_slice HO_5.out; subst eo47; have p259 : 0 ≤ ((ji36) : Int) := of_decide_eq_true (by first | (with_reducible assumption) | assumption); have q259 : (ji36) < (x5_1.length : Int) := of_decide_eq_true (by first | (with_reducible assumption) | assumption); obtain ⟨ad259, e259, hx259_0, hx259_1, hx259_2⟩ := at_T31 (Kd.R_reads' HO_5.out).2.2 (ji36) p259 q259; cases e259; replace p259 := eq_true p259; replace q259 := eq_true q259) | ((with_reducible refine gate_dst (N := 90) rfl ?_); refine Kd.R_lit k31 _ 31 ?hg (N := 90) ?hd (xs := ([(⟨(⟨(rd t253 x7_1), wrap64 ((rd t253 (ji25)) - (rd t253 x7_1))⟩ : S24), t258⟩ : S31)] : List (S31))) (inner := [.int .i64 (rd t253 x7_1), .int .i64 (wrap64 ((rd t253 (ji25)) - (rd t253 x7_1))), .bool t258]) (ok := fun _ => True) (okp := fun _ => True) ?hr ?hp (fun _ hk => hk) trivial (Below.refl _ _) (Nat.le_refl _) (by simp) ?_; (case hd => rfl); (case hg => rfl); (case hr => first | (go_simp; done) | (go_simp; rfl)); (case hp => exact (Reps.c3 (show Kd.M k31 _ _ _ (⟨(⟨(rd t253 x7_1), wrap64 ((rd t253 (ji25)) - (rd t253 x7_1))⟩ : S24), t258⟩ : S31) [.int .i64 (rd t253 x7_1), .int .i64 (wrap64 ((rd t253 (ji25)) - (rd t253 x7_1))), .bool t258] from (k31_mkM _ _ _ (⟨(⟨(rd t253 x7_1), wrap64 ((rd t253 (ji25)) - (rd t253 x7_1))⟩ : S24), t258⟩ : S31) )) (Reps.none _ _))); intro v263 w48 ho49 hb hg_ hnew_; clear hg_ hnew_; (first | rw [← Ny262.out] at ho49 | (simp only [Int.reduceToNat] at ho49; rw [← Ny262.out] at ho49)); have n0_ := Aside0.mk (Kd.R_elder' (by (with_reducible repeat (first | apply Kd.R_alloc | apply Kd.R_drewN | apply Kd.R_drew)); exact HO_5.out) (Kd.R_base ho49) hb); have n1_ := Aside0.mk (Kd.R_below (by (with_reducible repeat (first | apply Kd.R_alloc | apply Kd.R_drewN | apply Kd.R_drew)); exact HO_6.out) hb); have n2_ := Aside0.mk (Kd.R_lower (Kd.R_new' ho49 (Kd.R_lt (by (with_reducible repeat (first | apply Kd.R_alloc | apply Kd.R_drewN | apply Kd.R_drew)); exact HO_5.out))) (below_size (by repeat (first | (with_reducible first | exact HB.out | apply below_alloc | apply pw_below_drewN | apply below_drew1 | refine below_set ?_ GE240.out) | exact HB.out)))); have n3_ := Aside0.mk (blk_below (g := gb240) (o := .cells #[.int .i64 a1_0, .int .i64 a1_1] 24 (0, 0)) (by (with_reducible repeat (first | refine blk_drewN ?_ _ | refine blk_drew ?_ | refine blk_alloc ?_ _)); exact BK240.out) hb); have n4_ := Aside0.mk (below_step (by repeat (first | (with_reducible first | exact HB.out | apply below_alloc | apply pw_below_drewN | apply below_drew1 | refine below_set ?_ GE240.out) | exact HB.out)) hb); clear HO_5; clear HO_6; clear BK240; clear HB; have HO_5 := n0_; have HO_6 := n1_; have HO264 := n2_; have BK240 := n3_; have HB := n4_; clear n0_ n1_ n2_ n3_ n4_; clear hb ho49; obtain ⟨Ao51, co51, eo51⟩ := Kd.R_slice HO264.out; subst eo51) | (at_builtin; refine Kd.R_append_rows k31 (w0 := w) w.heap.size rfl (.tmp 82) (.tmp 90) 32 31 (.agg #[(.int .i64 0), (.int .i64 0), (.bool false)]) 24 rfl Try.underlying32 info31 rfl (by decide) (by omega) (.slice (some ad259) x5_1.length co47) x5_1 y262 _ _ _ (fun k_ => some k_ ≠ (.slice Ao51 y262.length co51 : Value).ownBlock) (fun _ => False) rfl rfl ?aO ?aR (fun _ _ h => h) (fun _ h => h.elim) ?aF ?aB ?aS ?aL ?_; (case aR => repeat (first | exact (Kd.R_reads' HO264.out).2.2 | (with_reducible refine Kd.C_alloc ?_ _) | (with_reducible refine Kd.C_drewN ?_ _) | (with_reducible refine Kd.C_drew ?_))); (case aB => exact (by repeat (first | (with_reducible first | exact HB.out | apply below_alloc | apply pw_below_drewN | apply below_drew1 | refine below_set ?_ GE240.out) | exact HB.out))); (case aF => exact (fun k_ hk => Kd.fresh' (Kd.R_lt (by (with_reducible repeat (first | apply Kd.R_alloc | apply Kd.R_drewN | apply Kd.R_drew)); exact HO264.out)) k_ hk)); (case aO => exact (by (with_reducible repeat (first | apply Kd.R_alloc | apply Kd.R_drewN | apply Kd.R_drew)); exact Kd.R_mono HO_5.out (fun _ hk => hk.2))); (case aS => exact (below_size (by repeat (first | (with_reducible first | exact HB.out | apply below_alloc | apply pw_below_drewN | apply below_drew1 | refine below_set ?_ GE240.out) | exact HB.out)))); (case aL => have := LMc45.out; omega); intro v266 w50 ho hb hg hat; rw [← Ny265.out] at ho; have n0_ := Aside0.mk (Kd.R_over' (by (with_reducible repeat (first | apply Kd.R_alloc | apply Kd.R_drewN | apply Kd.R_drew)); exact HO_6.out) (Kd.R_typed (by (with_reducible repeat (first | apply Kd.R_alloc | apply Kd.R_drewN | apply Kd.R_drew)); exact HO_5.out)) (by decide) hg); have n1_ := Aside0.mk (blk_grown (g := gb240) (o := .cells #[.int .i64 a1_0, .int .i64 a1_1] 24 (0, 0)) (by (with_reducible repeat (first | refine blk_drewN ?_ _ | refine blk_drew ?_ | refine blk_alloc ?_ _)); exact BK240.out) hg (Kd.R_ne HO_5.out BK240.out (by decide))); have n2_ := Aside0.mk (Kd.R_after (ok := (fun _ => True)) (by (with_reducible repeat (first | apply Kd.R_alloc | apply Kd.R_drewN | apply Kd.R_drew)); exact HO264.out) hg hat); have n3_ := Aside0.mk (hb); have n4_ := Aside0.mk (ho); clear HO_6; clear BK240; clear HO264; clear HB; clear HO_5; have HO_6 := n0_; have BK240 := n1_; have HO264 := n2_; have HB := n3_; have HO267 := n4_; clear n0_ n1_ n2_ n3_ n4_; clear ho hb hg hat))
                  go_roundg kj26
                  case measure => have := HK1.out; have := HJ26.out; omega
                  case rel => exact ⟨(y265), (wrap64 (x7_1 + 1)), (by first | rfl | (simp; done) | (simp [*]; done)), H', ⟨by have := HK1.out; have := HJ26.out; omega⟩, ⟨by (with_reducible repeat (first | apply Kd.R_alloc | apply Kd.R_drewN | apply Kd.R_drew)); exact Kd.R_mono HO267.out (fun _ hk => trivial)⟩, ⟨by (with_reducible repeat (first | apply Kd.R_alloc | apply Kd.R_drewN | apply Kd.R_drew)); exact HO_6.out⟩, ⟨by (with_reducible repeat (first | refine blk_drewN ?_ _ | refine blk_drew ?_ | refine blk_alloc ?_ _)); exact BK240.out⟩, ⟨by repeat (first | (with_reducible first | exact HB.out | apply below_alloc | apply pw_below_drewN | apply below_drew1 | refine below_set ?_ GE240.out) | exact HB.out)⟩⟩
                 ·rw [if_neg c45] at H
                  exact absurd H (by simp)
               ·rw [if_neg c38] at H
                exact absurd H (by simp)
              ·rw [if_neg c37] at H
               exact absurd H (by simp)
             ·rw [if_neg c35] at H
              have c35b0 : decide (0 < (x5_1.length : Int)) = false := decide_eq_false c35
              have c35b1 : decide (0 < x5_1.length) = false := decide_eq_false (by omega)
              clear c35
              obtain ⟨y268, hy268⟩ : ∃ y_ : List (S31), y_ = (([(⟨(⟨(rd t253 x7_1), wrap64 ((rd t253 (ji25)) - (rd t253 x7_1))⟩ : S24), t258⟩ : S31)] : List (S31))) := ⟨_, rfl⟩
              replace H : (if x5_1.length + y268.length < 5864062014805 then (spec_RangeParts.l0 kj26 l0 (x5_1 ++ y268) t253 (wrap64 (x7_1 + 1)) a1_0 a1_1) else (none)) = some r := by first | (rw [hy268]; with_reducible exact H) | (have H2_ := (Option.bind_some _ _).symm.trans H; rw [hy268]; with_reducible exact H2_) | (have H2_ := (Option.bind_some _ _).symm.trans H; with_reducible exact H2_) | with_reducible exact H | (rw [hy268]; exact H) | exact H
              have Ny268 := Aside0.mk hy268
              clear hy268
              by_cases c52 : x5_1.length + y268.length < 5864062014805
              ·rw [if_pos c52] at H
               have LMc52 := Aside0.mk c52
               clear c52
               obtain ⟨y271, hy271⟩ : ∃ y_ : List (S31), y_ = (x5_1 ++ y268) := ⟨_, rfl⟩
               replace H : (spec_RangeParts.l0 kj26 l0 y271 t253 (wrap64 (x7_1 + 1)) a1_0 a1_1) = some r := by first | (rw [hy271]; with_reducible exact H) | (have H2_ := (Option.bind_some _ _).symm.trans H; rw [hy271]; with_reducible exact H2_) | (have H2_ := (Option.bind_some _ _).symm.trans H; with_reducible exact H2_) | with_reducible exact H | (rw [hy271]; exact H) | exact H
               have Ny271 := Aside0.mk hy271
               clear hy271
               have H' := Aside0.mk H
               clear H
               go_wp2_with (first | ((with_reducible refine gate_dst (N := 53) rfl ?_); refine goesL_ (some 53) rfl rfl Try.func37 (by kernel_rfl) rfl #[.slice A0 l0.length c0, .int .i64 (rd t253 x7_1)] rfl (by (try simp only [List.map_toArray, List.map_cons, List.map_nil]); first | done | rfl | (simp only [List.length_drop, List.length_take]; rfl)) ?_; (with_reducible refine (spec_RangeHas.calls kj26 _ _ l0 (rd t253 x7_1) t258 _ ?side1 ?side2 A34.out).mono ?_); (case side1 => repeat (first | exact (Kd.C_below HR0.out HB.out) | (with_reducible refine Kd.C_alloc ?_ _) | (with_reducible refine Kd.C_drewN ?_ _) | (with_reducible refine Kd.C_drew ?_))); (case side2 => exact HC0.out); rintro e w53 ⟨rfl, hb⟩; refine ⟨_, rfl, ?_⟩; have n0_ := Aside0.mk (Kd.R_below (by (with_reducible repeat (first | apply Kd.R_alloc | apply Kd.R_drewN | apply Kd.R_drew)); exact HO_5.out) hb); have n1_ := Aside0.mk (Kd.R_below (by (with_reducible repeat (first | apply Kd.R_alloc | apply Kd.R_drewN | apply Kd.R_drew)); exact HO_6.out) hb); have n2_ := Aside0.mk (blk_below (g := gb240) (o := .cells #[.int .i64 a1_0, .int .i64 a1_1] 24 (0, 0)) (by (with_reducible repeat (first | refine blk_drewN ?_ _ | refine blk_drew ?_ | refine blk_alloc ?_ _)); exact BK240.out) hb); have n3_ := Aside0.mk (below_step (by repeat (first | (with_reducible first | exact HB.out | apply below_alloc | apply pw_below_drewN | apply below_drew1 | refine below_set ?_ GE240.out) | exact HB.out)) hb); clear HO_5; clear HO_6; clear BK240; clear HB; have HO_5 := n0_; have HO_6 := n1_; have BK240 := n2_; have HB := n3_; clear n0_ n1_ n2_ n3_; (try clear hb); (try clear hb2); (try clear hk); (try clear hi); obtain ⟨Ao54, co54, eo54⟩ := Kd.R_slice HO_5.out; subst eo54) | ((with_reducible refine gate_dst (N := 90) rfl ?_); refine Kd.R_lit k31 _ 31 ?hg (N := 90) ?hd (xs := ([(⟨(⟨(rd t253 x7_1), wrap64 ((rd t253 (ji25)) - (rd t253 x7_1))⟩ : S24), t258⟩ : S31)] : List (S31))) (inner := [.int .i64 (rd t253 x7_1), .int .i64 (wrap64 ((rd t253 (ji25)) - (rd t253 x7_1))), .bool t258]) (ok := fun _ => True) (okp := fun _ => True) ?hr ?hp (fun _ hk => hk) trivial (Below.refl _ _) (Nat.le_refl _) (by simp) ?_; (case hd => rfl); (case hg => rfl); (case hr => first | (go_simp; done) | (go_simp; rfl)); (case hp => exact (Reps.c3 (show Kd.M k31 _ _ _ (⟨(⟨(rd t253 x7_1), wrap64 ((rd t253 (ji25)) - (rd t253 x7_1))⟩ : S24), t258⟩ : S31) [.int .i64 (rd t253 x7_1), .int .i64 (wrap64 ((rd t253 (ji25)) - (rd t253 x7_1))), .bool t258] from (k31_mkM _ _ _ (⟨(⟨(rd t253 x7_1), wrap64 ((rd t253 (ji25)) - (rd t253 x7_1))⟩ : S24), t258⟩ : S31) )) (Reps.none _ _))); intro v269 w55 ho56 hb hg_ hnew_; clear hg_ hnew_; (first | rw [← Ny268.out] at ho56 | (simp only [Int.reduceToNat] at ho56; rw [← Ny268.out] at ho56)); have n0_ := Aside0.mk (Kd.R_elder' (by (with_reducible repeat (first | apply Kd.R_alloc | apply Kd.R_drewN | apply Kd.R_drew)); exact HO_5.out) (Kd.R_base ho56) hb); have n1_ := Aside0.mk (Kd.R_below (by (with_reducible repeat (first | apply Kd.R_alloc | apply Kd.R_drewN | apply Kd.R_drew)); exact HO_6.out) hb); have n2_ := Aside0.mk (Kd.R_lower (Kd.R_new' ho56 (Kd.R_lt (by (with_reducible repeat (first | apply Kd.R_alloc | apply Kd.R_drewN | apply Kd.R_drew)); exact HO_5.out))) (below_size (by repeat (first | (with_reducible first | exact HB.out | apply below_alloc | apply pw_below_drewN | apply below_drew1 | refine below_set ?_ GE240.out) | exact HB.out)))); have n3_ := Aside0.mk (blk_below (g := gb240) (o := .cells #[.int .i64 a1_0, .int .i64 a1_1] 24 (0, 0)) (by (with_reducible repeat (first | refine blk_drewN ?_ _ | refine blk_drew ?_ | refine blk_alloc ?_ _)); exact BK240.out) hb); have n4_ := Aside0.mk (below_step (by repeat (first | (with_reducible first | exact HB.out | apply below_alloc | apply pw_below_drewN | apply below_drew1 | refine below_set ?_ GE240.out) | exact HB.out)) hb); clear HO_5; clear HO_6; clear BK240; clear HB; have HO_5 := n0_; have HO_6 := n1_; have HO270 := n2_; have BK240 := n3_; have HB := n4_; clear n0_ n1_ n2_ n3_ n4_; clear hb ho56; obtain ⟨Ao58, co58, eo58⟩ := Kd.R_slice HO270.out; subst eo58) | (at_builtin; refine Kd.R_append_rows k31 (w0 := w) w.heap.size rfl (.tmp 82) (.tmp 90) 32 31 (.agg #[(.int .i64 0), (.int .i64 0), (.bool false)]) 24 rfl Try.underlying32 info31 rfl (by decide) (by omega) (.slice Ao54 x5_1.length co54) x5_1 y268 _ _ _ (fun k_ => some k_ ≠ (.slice Ao58 y268.length co58 : Value).ownBlock) (fun _ => False) rfl rfl ?aO ?aR (fun _ _ h => h) (fun _ h => h.elim) ?aF ?aB ?aS ?aL ?_; (case aR => repeat (first | exact (Kd.R_reads' HO270.out).2.2 | (with_reducible refine Kd.C_alloc ?_ _) | (with_reducible refine Kd.C_drewN ?_ _) | (with_reducible refine Kd.C_drew ?_))); (case aB => exact (by repeat (first | (with_reducible first | exact HB.out | apply below_alloc | apply pw_below_drewN | apply below_drew1 | refine below_set ?_ GE240.out) | exact HB.out))); (case aF => exact (fun k_ hk => Kd.fresh' (Kd.R_lt (by (with_reducible repeat (first | apply Kd.R_alloc | apply Kd.R_drewN | apply Kd.R_drew)); exact HO270.out)) k_ hk)); (case aO => exact (by (with_reducible repeat (first | apply Kd.R_alloc | apply Kd.R_drewN | apply Kd.R_drew)); exact Kd.R_mono HO_5.out (fun _ hk => hk.2))); (case aS => exact (below_size (by repeat (first | (with_reducible first | exact HB.out | apply below_alloc | apply pw_below_drewN | apply below_drew1 | refine below_set ?_ GE240.out) | exact HB.out)))); (case aL => have := LMc52.out; omega); intro v272 w57 ho hb hg hat; rw [← Ny271.out] at ho; have n0_ := Aside0.mk (Kd.R_over' (by (with_reducible repeat (first | apply Kd.R_alloc | apply Kd.R_drewN | apply Kd.R_drew)); exact HO_6.out) (Kd.R_typed (by (with_reducible repeat (first | apply Kd.R_alloc | apply Kd.R_drewN | apply Kd.R_drew)); exact HO_5.out)) (by decide) hg); have n1_ := Aside0.mk (blk_grown (g := gb240) (o := .cells #[.int .i64 a1_0, .int .i64 a1_1] 24 (0, 0)) (by (with_reducible repeat (first | refine blk_drewN ?_ _ | refine blk_drew ?_ | refine blk_alloc ?_ _)); exact BK240.out) hg (Kd.R_ne HO_5.out BK240.out (by decide))); have n2_ := Aside0.mk (Kd.R_after (ok := (fun _ => True)) (by (with_reducible repeat (first | apply Kd.R_alloc | apply Kd.R_drewN | apply Kd.R_drew)); exact HO270.out) hg hat); have n3_ := Aside0.mk (hb); have n4_ := Aside0.mk (ho); clear HO_6; clear BK240; clear HO270; clear HB; clear HO_5; have HO_6 := n0_; have BK240 := n1_; have HO270 := n2_; have HB := n3_; have HO273 := n4_; clear n0_ n1_ n2_ n3_ n4_; clear ho hb hg hat))
               go_roundg kj26
               case measure => have := HK1.out; have := HJ26.out; omega
               case rel => exact ⟨(y271), (wrap64 (x7_1 + 1)), (by first | rfl | (simp; done) | (simp [*]; done)), H', ⟨by have := HK1.out; have := HJ26.out; omega⟩, ⟨by (with_reducible repeat (first | apply Kd.R_alloc | apply Kd.R_drewN | apply Kd.R_drew)); exact Kd.R_mono HO273.out (fun _ hk => trivial)⟩, ⟨by (with_reducible repeat (first | apply Kd.R_alloc | apply Kd.R_drewN | apply Kd.R_drew)); exact HO_6.out⟩, ⟨by (with_reducible repeat (first | refine blk_drewN ?_ _ | refine blk_drew ?_ | refine blk_alloc ?_ _)); exact BK240.out⟩, ⟨by repeat (first | (with_reducible first | exact HB.out | apply below_alloc | apply pw_below_drewN | apply below_drew1 | refine below_set ?_ GE240.out) | exact HB.out)⟩⟩
              ·rw [if_neg c52] at H
               exact absurd H (by simp)
         ·rw [if_neg c26] at H
          exact absurd H (by simp)
        ·rw [if_neg c24] at H
         exact absurd H (by simp)
       ·rw [if_neg c23] at H
        exact absurd H (by simp)
      ·rw [if_neg c22] at H
       have c22b0 : decide ((wrap64 (x7_1 + 1)) < (t253.length : Int)) = false := decide_eq_false c22
       clear c22
       obtain rfl := Option.some.inj H
       obtain ⟨Ao59, co59, eo59⟩ := Kd.R_slice HO_6.out
       subst eo59
       go_wp2
       go_ret
       exact ⟨_, by first | rfl | (simp [errW_none, errW_some] <;> rfl) | (simp [*, errW_none, errW_some] <;> rfl), by (with_reducible repeat (first | apply Kd.R_alloc | apply Kd.R_drewN | apply Kd.R_drew)); exact HO_5.out, by repeat (first | (with_reducible first | exact HB.out | apply below_alloc | apply pw_below_drewN | apply below_drew1 | refine below_set ?_ GE240.out) | exact HB.out)⟩
   ·rw [if_neg c7] at H
    exact absurd H (by simp)
  ·rw [if_neg c6] at H
   exact absurd H (by simp)

end Go.Proofs.Ytmkhkkfliecfdaa.PT
