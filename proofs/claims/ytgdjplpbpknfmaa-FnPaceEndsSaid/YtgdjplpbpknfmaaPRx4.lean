-- Written by a program of this session.
import Derived.Test.YtgdjplpbpknfmaaPRx0
import Derived.Test.YtgdjplpbpknfmaaPRx1
import Derived.Test.YtgdjplpbpknfmaaPRx2
namespace Go.Proofs.Ytgdjplpbpknfmaa.PR
open Go.RowKit Go.Proofs.YtgdjplpbpknfmaaW.PrintWords Go.Proofs.YtgdjplpbpknfmaaW.PrintLast Go.Proofs.YtgdjplpbpknfmaaW.PrintMore Go.Proofs.Ytgdjplpbpknfmaa.Given
attribute [local go_sem] max2_int min2_int max_two min_two max_three min_three max_four min_four   -- for this text's walks alone
set_option linter.unusedVariables false
set_option linter.unusedSimpArgs false

/-! ### laws_FnPaceEnds: function 5 -/
mutual
def laws_FnPaceEnds.j0 : Nat → Bool → Int → Bool → Int → Int → Int → Int → Int → Int → Int → Int → Option (Bool)
  | 0, _, _, _, _, _, _, _, _, _, _, _ => none
  | k + 1, x1, x2, x45, x138000, x138001, x138002, x138003, x143000, x143001, x143002, x143003 => if x45 = true then (some true) else (laws_FnPaceEnds.l0 k x1 x2 ([] : List Bool) ([] : List Int) 0 x138000 x138001 x138002 x138003 x143000 x143001 x143002 x143003)
def laws_FnPaceEnds.l0 : Nat → Bool → Int → List Bool → List Int → Int → Int → Int → Int → Int → Int → Int → Int → Int → Option (Bool)
  | 0, _, _, _, _, _, _, _, _, _, _, _, _, _ => none
  | k + 1, x1, x2, x8, x9, x46, x138000, x138001, x138002, x138003, x143000, x143001, x143002, x143003 => if x46 < 220 then (if x8.length < 140737488355328 then (if x9.length < 17592186044416 then (laws_FnPaceEnds.l0 k x1 x2 (x8 ++ [decide (x46 ≥ 50)]) (x9 ++ [(-1)]) (wrap64 (x46 + 1)) x138000 x138001 x138002 x138003 x143000 x143001 x143002 x143003) else (none)) else (none)) else ((laws_paceRun.f x138000 x138001 x138002 x138003 x1 x2 x8 x9).bind fun bt150 => (if bt150.2 = true then ((laws_paceAwake.f).bind fun t154 => (laws_FnPaceEnds.j2 k x1 bt150.1 (!t154) x143000 x143001 x143002 x143003)) else (laws_FnPaceEnds.j2 k x1 bt150.1 true x143000 x143001 x143002 x143003)))
def laws_FnPaceEnds.j2 : Nat → Bool → List Int → Bool → Int → Int → Int → Int → Option (Bool)
  | 0, _, _, _, _, _, _, _ => none
  | k + 1, x1, x11, x72, x143000, x143001, x143002, x143003 => if x72 = true then (some false) else (if x1 = true then (laws_FnPaceEnds.j3 k x11 0 x143000 x143001 x143002 x143003) else (laws_FnPaceEnds.j3 k x11 x143000 x143000 x143001 x143002 x143003))
def laws_FnPaceEnds.j3 : Nat → List Int → Int → Int → Int → Int → Int → Option (Bool)
  | 0, _, _, _, _, _, _ => none
  | k + 1, x11, x13, x143000, x143001, x143002, x143003 => laws_FnPaceEnds.l1 k x13 x11 (x11.length : Int) 0 x143000 x143001 x143002 x143003
def laws_FnPaceEnds.l1 : Nat → Int → List Int → Int → Int → Int → Int → Int → Int → Option (Bool)
  | 0, _, _, _, _, _, _, _, _ => none
  | k + 1, x13, x76, x77, x78, x143000, x143001, x143002, x143003 => if x78 < x77 then (if 0 ≤ x78 then (if x78 < (x76.length : Int) then (if x78 ≥ 45 then (if x78 < 50 then (if (rd x76 x78) = x143001 then (if x78 ≥ 205 then (if (rd x76 x78) = x13 then (laws_FnPaceEnds.l1 k x13 x76 x77 (wrap64 (x78 + 1)) x143000 x143001 x143002 x143003) else (some false)) else (laws_FnPaceEnds.l1 k x13 x76 x77 (wrap64 (x78 + 1)) x143000 x143001 x143002 x143003)) else (some false)) else (if x78 ≥ 205 then (if (rd x76 x78) = x13 then (laws_FnPaceEnds.l1 k x13 x76 x77 (wrap64 (x78 + 1)) x143000 x143001 x143002 x143003) else (some false)) else (laws_FnPaceEnds.l1 k x13 x76 x77 (wrap64 (x78 + 1)) x143000 x143001 x143002 x143003))) else (if x78 ≥ 205 then (if (rd x76 x78) = x13 then (laws_FnPaceEnds.l1 k x13 x76 x77 (wrap64 (x78 + 1)) x143000 x143001 x143002 x143003) else (some false)) else (laws_FnPaceEnds.l1 k x13 x76 x77 (wrap64 (x78 + 1)) x143000 x143001 x143002 x143003))) else (none)) else (none)) else (some true)
end
def laws_FnPaceEnds.f (k : Nat) (a0_0 : Int) (a0_1 : Int) (a0_2 : Int) (a0_3 : Int) (a1 : Bool) (a2 : Int) : Option (Bool) := (spec_PaceGiven.f k a0_0 a0_1 a0_2 a0_3 a1).bind fun bt138 => ((spec_PaceIn.f a0_0 a0_1 a0_2 a0_3 (mx a2 0) 0 0 0).bind fun t143 => (if t143 = true then (if a2 < 1 then (laws_FnPaceEnds.j0 k a1 a2 true a0_0 a0_1 a0_2 a0_3 bt138.1 bt138.2.1 bt138.2.2.1 bt138.2.2.2) else (if bt138.1 > bt138.2.1 then (laws_FnPaceEnds.j0 k a1 a2 true a0_0 a0_1 a0_2 a0_3 bt138.1 bt138.2.1 bt138.2.2.1 bt138.2.2.2) else (if bt138.2.2.2 > 1 then (laws_FnPaceEnds.j0 k a1 a2 true a0_0 a0_1 a0_2 a0_3 bt138.1 bt138.2.1 bt138.2.2.1 bt138.2.2.2) else (laws_FnPaceEnds.j0 k a1 a2 (decide (bt138.2.2.1 > 2)) a0_0 a0_1 a0_2 a0_3 bt138.1 bt138.2.1 bt138.2.2.1 bt138.2.2.2)))) else (laws_FnPaceEnds.j0 k a1 a2 true a0_0 a0_1 a0_2 a0_3 bt138.1 bt138.2.1 bt138.2.2.1 bt138.2.2.2)))
theorem laws_FnPaceEnds.mono_l : ∀ k, (∀ y0 y1 y2 y3 y4 y5 y6 y7 y8 y9 y10, LeO (laws_FnPaceEnds.j0 k y0 y1 y2 y3 y4 y5 y6 y7 y8 y9 y10) (laws_FnPaceEnds.j0 (k + 1) y0 y1 y2 y3 y4 y5 y6 y7 y8 y9 y10)) ∧ (∀ y0 y1 y2 y3 y4 y5 y6 y7 y8 y9 y10 y11 y12, LeO (laws_FnPaceEnds.l0 k y0 y1 y2 y3 y4 y5 y6 y7 y8 y9 y10 y11 y12) (laws_FnPaceEnds.l0 (k + 1) y0 y1 y2 y3 y4 y5 y6 y7 y8 y9 y10 y11 y12)) ∧ (∀ y0 y1 y2 y3 y4 y5 y6, LeO (laws_FnPaceEnds.j2 k y0 y1 y2 y3 y4 y5 y6) (laws_FnPaceEnds.j2 (k + 1) y0 y1 y2 y3 y4 y5 y6)) ∧ (∀ y0 y1 y2 y3 y4 y5, LeO (laws_FnPaceEnds.j3 k y0 y1 y2 y3 y4 y5) (laws_FnPaceEnds.j3 (k + 1) y0 y1 y2 y3 y4 y5)) ∧ (∀ y0 y1 y2 y3 y4 y5 y6 y7, LeO (laws_FnPaceEnds.l1 k y0 y1 y2 y3 y4 y5 y6 y7) (laws_FnPaceEnds.l1 (k + 1) y0 y1 y2 y3 y4 y5 y6 y7))
  | 0 => ⟨fun _ _ _ _ _ _ _ _ _ _ _ r h => by simp [laws_FnPaceEnds.j0] at h, fun _ _ _ _ _ _ _ _ _ _ _ _ _ r h => by simp [laws_FnPaceEnds.l0] at h, fun _ _ _ _ _ _ _ r h => by simp [laws_FnPaceEnds.j2] at h, fun _ _ _ _ _ _ r h => by simp [laws_FnPaceEnds.j3] at h, fun _ _ _ _ _ _ _ _ r h => by simp [laws_FnPaceEnds.l1] at h⟩
  | k + 1 => by
    obtain ⟨ih0, ih1, ih2, ih3, ih4⟩ := laws_FnPaceEnds.mono_l k
    refine ⟨?_, ?_, ?_, ?_, ?_⟩
    · intro y0 y1 y2 y3 y4 y5 y6 y7 y8 y9 y10
      unfold laws_FnPaceEnds.j0
      repeat' first
      | (with_reducible exact ih0 _ _ _ _ _ _ _ _ _ _ _)
      | (with_reducible exact ih1 _ _ _ _ _ _ _ _ _ _ _ _ _)
      | (with_reducible exact ih2 _ _ _ _ _ _ _)
      | (with_reducible exact ih3 _ _ _ _ _ _)
      | (with_reducible exact ih4 _ _ _ _ _ _ _ _)
      | (with_reducible exact spec_PaceGiven.mono _ _ _ _ _ _)
      | (with_reducible exact LeO.refl _)
      | (with_reducible exact LeO.none _)
      | (with_reducible refine LeO.ite ?_ ?_)
      | (with_reducible refine LeO.bind ?_ (fun _ => ?_))
      | exact ih0 _ _ _ _ _ _ _ _ _ _ _
      | exact ih1 _ _ _ _ _ _ _ _ _ _ _ _ _
      | exact ih2 _ _ _ _ _ _ _
      | exact ih3 _ _ _ _ _ _
      | exact ih4 _ _ _ _ _ _ _ _
      | exact spec_PaceGiven.mono _ _ _ _ _ _
      | exact LeO.none _
      | refine LeO.ite ?_ ?_
      | refine LeO.bind ?_ (fun _ => ?_)
    · intro y0 y1 y2 y3 y4 y5 y6 y7 y8 y9 y10 y11 y12
      unfold laws_FnPaceEnds.l0
      repeat' first
      | (with_reducible exact ih0 _ _ _ _ _ _ _ _ _ _ _)
      | (with_reducible exact ih1 _ _ _ _ _ _ _ _ _ _ _ _ _)
      | (with_reducible exact ih2 _ _ _ _ _ _ _)
      | (with_reducible exact ih3 _ _ _ _ _ _)
      | (with_reducible exact ih4 _ _ _ _ _ _ _ _)
      | (with_reducible exact spec_PaceGiven.mono _ _ _ _ _ _)
      | (with_reducible exact LeO.refl _)
      | (with_reducible exact LeO.none _)
      | (with_reducible refine LeO.ite ?_ ?_)
      | (with_reducible refine LeO.bind ?_ (fun _ => ?_))
      | exact ih0 _ _ _ _ _ _ _ _ _ _ _
      | exact ih1 _ _ _ _ _ _ _ _ _ _ _ _ _
      | exact ih2 _ _ _ _ _ _ _
      | exact ih3 _ _ _ _ _ _
      | exact ih4 _ _ _ _ _ _ _ _
      | exact spec_PaceGiven.mono _ _ _ _ _ _
      | exact LeO.none _
      | refine LeO.ite ?_ ?_
      | refine LeO.bind ?_ (fun _ => ?_)
    · intro y0 y1 y2 y3 y4 y5 y6
      unfold laws_FnPaceEnds.j2
      repeat' first
      | (with_reducible exact ih0 _ _ _ _ _ _ _ _ _ _ _)
      | (with_reducible exact ih1 _ _ _ _ _ _ _ _ _ _ _ _ _)
      | (with_reducible exact ih2 _ _ _ _ _ _ _)
      | (with_reducible exact ih3 _ _ _ _ _ _)
      | (with_reducible exact ih4 _ _ _ _ _ _ _ _)
      | (with_reducible exact spec_PaceGiven.mono _ _ _ _ _ _)
      | (with_reducible exact LeO.refl _)
      | (with_reducible exact LeO.none _)
      | (with_reducible refine LeO.ite ?_ ?_)
      | (with_reducible refine LeO.bind ?_ (fun _ => ?_))
      | exact ih0 _ _ _ _ _ _ _ _ _ _ _
      | exact ih1 _ _ _ _ _ _ _ _ _ _ _ _ _
      | exact ih2 _ _ _ _ _ _ _
      | exact ih3 _ _ _ _ _ _
      | exact ih4 _ _ _ _ _ _ _ _
      | exact spec_PaceGiven.mono _ _ _ _ _ _
      | exact LeO.none _
      | refine LeO.ite ?_ ?_
      | refine LeO.bind ?_ (fun _ => ?_)
    · intro y0 y1 y2 y3 y4 y5
      unfold laws_FnPaceEnds.j3
      repeat' first
      | (with_reducible exact ih0 _ _ _ _ _ _ _ _ _ _ _)
      | (with_reducible exact ih1 _ _ _ _ _ _ _ _ _ _ _ _ _)
      | (with_reducible exact ih2 _ _ _ _ _ _ _)
      | (with_reducible exact ih3 _ _ _ _ _ _)
      | (with_reducible exact ih4 _ _ _ _ _ _ _ _)
      | (with_reducible exact spec_PaceGiven.mono _ _ _ _ _ _)
      | (with_reducible exact LeO.refl _)
      | (with_reducible exact LeO.none _)
      | (with_reducible refine LeO.ite ?_ ?_)
      | (with_reducible refine LeO.bind ?_ (fun _ => ?_))
      | exact ih0 _ _ _ _ _ _ _ _ _ _ _
      | exact ih1 _ _ _ _ _ _ _ _ _ _ _ _ _
      | exact ih2 _ _ _ _ _ _ _
      | exact ih3 _ _ _ _ _ _
      | exact ih4 _ _ _ _ _ _ _ _
      | exact spec_PaceGiven.mono _ _ _ _ _ _
      | exact LeO.none _
      | refine LeO.ite ?_ ?_
      | refine LeO.bind ?_ (fun _ => ?_)
    · intro y0 y1 y2 y3 y4 y5 y6 y7
      unfold laws_FnPaceEnds.l1
      repeat' first
      | (with_reducible exact ih0 _ _ _ _ _ _ _ _ _ _ _)
      | (with_reducible exact ih1 _ _ _ _ _ _ _ _ _ _ _ _ _)
      | (with_reducible exact ih2 _ _ _ _ _ _ _)
      | (with_reducible exact ih3 _ _ _ _ _ _)
      | (with_reducible exact ih4 _ _ _ _ _ _ _ _)
      | (with_reducible exact spec_PaceGiven.mono _ _ _ _ _ _)
      | (with_reducible exact LeO.refl _)
      | (with_reducible exact LeO.none _)
      | (with_reducible refine LeO.ite ?_ ?_)
      | (with_reducible refine LeO.bind ?_ (fun _ => ?_))
      | exact ih0 _ _ _ _ _ _ _ _ _ _ _
      | exact ih1 _ _ _ _ _ _ _ _ _ _ _ _ _
      | exact ih2 _ _ _ _ _ _ _
      | exact ih3 _ _ _ _ _ _
      | exact ih4 _ _ _ _ _ _ _ _
      | exact spec_PaceGiven.mono _ _ _ _ _ _
      | exact LeO.none _
      | refine LeO.ite ?_ ?_
      | refine LeO.bind ?_ (fun _ => ?_)
theorem laws_FnPaceEnds.mono : ∀ a0 a1 a2 a3 a4 a5 k, LeO (laws_FnPaceEnds.f k a0 a1 a2 a3 a4 a5) (laws_FnPaceEnds.f (k + 1) a0 a1 a2 a3 a4 a5) := by
  intro a0 a1 a2 a3 a4 a5 k
  obtain ⟨ih0, ih1, ih2, ih3, ih4⟩ := laws_FnPaceEnds.mono_l k
  unfold laws_FnPaceEnds.f
  repeat' first
      | (with_reducible exact ih0 _ _ _ _ _ _ _ _ _ _ _)
      | (with_reducible exact ih1 _ _ _ _ _ _ _ _ _ _ _ _ _)
      | (with_reducible exact ih2 _ _ _ _ _ _ _)
      | (with_reducible exact ih3 _ _ _ _ _ _)
      | (with_reducible exact ih4 _ _ _ _ _ _ _ _)
      | (with_reducible exact spec_PaceGiven.mono _ _ _ _ _ _)
      | (with_reducible exact LeO.refl _)
      | (with_reducible exact LeO.none _)
      | (with_reducible refine LeO.ite ?_ ?_)
      | (with_reducible refine LeO.bind ?_ (fun _ => ?_))
      | exact ih0 _ _ _ _ _ _ _ _ _ _ _
      | exact ih1 _ _ _ _ _ _ _ _ _ _ _ _ _
      | exact ih2 _ _ _ _ _ _ _
      | exact ih3 _ _ _ _ _ _
      | exact ih4 _ _ _ _ _ _ _ _
      | exact spec_PaceGiven.mono _ _ _ _ _ _
      | exact LeO.none _
      | refine LeO.ite ?_ ?_
      | refine LeO.bind ?_ (fun _ => ?_)
set_option maxHeartbeats 8000000 in
set_option maxRecDepth 100000 in
theorem laws_FnPaceEnds.calls (k : Nat) (a0_0 : Int) (a0_1 : Int) (a0_2 : Int) (a0_3 : Int) (a1 : Bool) (a2 : Int) (r : Bool) (w : World) (h : laws_FnPaceEnds.f k a0_0 a0_1 a0_2 a0_3 a1 a2 = some r) :
    Calls Try.prog 5 #[.agg #[.int .i64 a0_0, .int .i64 a0_1, .int .i64 a0_2, .int .i64 a0_3], .bool a1, .int .i64 a2] w fun e w' => e = .returned (.bool r) ∧ Below w.heap.size w w' := by
  have hu26 := Try.underlying26
  have hu23 := Try.underlying23
  have HB := Aside0.mk (Below.refl w.heap.size w)
  have H : ((spec_PaceGiven.f k a0_0 a0_1 a0_2 a0_3 a1).bind fun bt138 => ((spec_PaceIn.f a0_0 a0_1 a0_2 a0_3 (mx a2 0) 0 0 0).bind fun t143 => (if t143 = true then (if a2 < 1 then (laws_FnPaceEnds.j0 k a1 a2 true a0_0 a0_1 a0_2 a0_3 bt138.1 bt138.2.1 bt138.2.2.1 bt138.2.2.2) else (if bt138.1 > bt138.2.1 then (laws_FnPaceEnds.j0 k a1 a2 true a0_0 a0_1 a0_2 a0_3 bt138.1 bt138.2.1 bt138.2.2.1 bt138.2.2.2) else (if bt138.2.2.2 > 1 then (laws_FnPaceEnds.j0 k a1 a2 true a0_0 a0_1 a0_2 a0_3 bt138.1 bt138.2.1 bt138.2.2.1 bt138.2.2.2) else (laws_FnPaceEnds.j0 k a1 a2 (decide (bt138.2.2.1 > 2)) a0_0 a0_1 a0_2 a0_3 bt138.1 bt138.2.1 bt138.2.2.1 bt138.2.2.2)))) else (laws_FnPaceEnds.j0 k a1 a2 true a0_0 a0_1 a0_2 a0_3 bt138.1 bt138.2.1 bt138.2.2.1 bt138.2.2.2)))) = some r := h
  clear h
  replace H := Option.bind_eq_some_iff.mp H
  obtain ⟨⟨t138, t139, t140, t141⟩, A40, H⟩ := H
  replace H : ((spec_PaceIn.f a0_0 a0_1 a0_2 a0_3 (mx a2 0) 0 0 0).bind fun t143 => (if t143 = true then (if a2 < 1 then (laws_FnPaceEnds.j0 k a1 a2 true a0_0 a0_1 a0_2 a0_3 t138 t139 t140 t141) else (if t138 > t139 then (laws_FnPaceEnds.j0 k a1 a2 true a0_0 a0_1 a0_2 a0_3 t138 t139 t140 t141) else (if t141 > 1 then (laws_FnPaceEnds.j0 k a1 a2 true a0_0 a0_1 a0_2 a0_3 t138 t139 t140 t141) else (laws_FnPaceEnds.j0 k a1 a2 (decide (t140 > 2)) a0_0 a0_1 a0_2 a0_3 t138 t139 t140 t141)))) else (laws_FnPaceEnds.j0 k a1 a2 true a0_0 a0_1 a0_2 a0_3 t138 t139 t140 t141))) = some r := H
  have A4 := Aside0.mk A40
  clear A40
  have HC5 := Aside0.mk H
  clear H
  go_enter Try.func5, Try.ntmps5
  go_upto_region 2 with (first | ((with_reducible refine gate_dst (N := 3) rfl ?_); refine box_event ?hg (N := 3) ?hd (cs := #[.int .i64 a0_0, .int .i64 a0_1, .int .i64 a0_2, .int .i64 a0_3]) (t := 26) ?hr ?_; (case hd => rfl); (case hg => rfl); (case hr => first | (go_simp; done) | (go_simp; rfl)); intro gb137 hg w6 hbox hb; have n0_ := Aside0.mk (below_step (by repeat (first | (with_reducible first | exact HB.out | apply below_alloc | apply pw_below_drewN | apply below_drew1) | exact HB.out)) hb); have n1_ := Aside0.mk (hbox); have n2_ := Aside0.mk ((by rw [hg]; exact (below_size (by repeat (first | (with_reducible first | exact HB.out | apply below_alloc | apply pw_below_drewN | apply below_drew1) | exact HB.out))) : w.heap.size ≤ gb137)); have n3_ := Aside0.mk ((by rw [hg]; exact (below_size (by repeat (first | (with_reducible first | exact HB.out | apply below_alloc | apply pw_below_drewN | apply below_drew1) | exact HB.out))) : w.heap.size ≤ gb137)); clear HB; have HB := n0_; have BK137 := n1_; have GW137 := n2_; have GE137 := n3_; clear n0_ n1_ n2_ n3_; clear hb hbox hg; have hcz7_0 : w6.cell? ⟨gb137, 0, none⟩ = some (.int .i64 a0_0) := (blk_cell BK137.out 0).trans rfl; have hcz7_1 : w6.cell? ⟨gb137, 1, none⟩ = some (.int .i64 a0_1) := (blk_cell BK137.out 1).trans rfl; have hcz7_2 : w6.cell? ⟨gb137, 2, none⟩ = some (.int .i64 a0_2) := (blk_cell BK137.out 2).trans rfl; have hcz7_3 : w6.cell? ⟨gb137, 3, none⟩ = some (.int .i64 a0_3) := (blk_cell BK137.out 3).trans rfl; have hfz7_0 := blk_frozen BK137.out 0; have hfz7_1 := blk_frozen BK137.out 1; have hfz7_2 := blk_frozen BK137.out 2; have hfz7_3 := blk_frozen BK137.out 3) | ((with_reducible refine gate_callee (f := 13) rfl ?_); refine goesL_ (some 18) rfl rfl Try.func13 (by kernel_rfl) rfl #[.agg #[.int .i64 a0_0, .int .i64 a0_1, .int .i64 a0_2, .int .i64 a0_3], .bool a1] rfl (by (try simp only [List.map_toArray, List.map_cons, List.map_nil]); first | done | rfl | (simp only [List.length_drop, List.length_take]; rfl)) ?_; (with_reducible refine (spec_PaceGiven.calls k a0_0 a0_1 a0_2 a0_3 a1 t138 t139 t140 t141 _ A4.out).mono ?_); rintro e w8 ⟨rfl, hb⟩; refine ⟨_, rfl, ?_⟩; have n0_ := Aside0.mk (blk_below (g := gb137) (o := .cells #[.int .i64 a0_0, .int .i64 a0_1, .int .i64 a0_2, .int .i64 a0_3] 26 (0, 0)) (by (with_reducible repeat (first | refine blk_drewN ?_ _ | refine blk_drew ?_ | refine blk_alloc ?_ _)); exact BK137.out) hb); have n1_ := Aside0.mk (below_step (by repeat (first | (with_reducible first | exact HB.out | apply below_alloc | apply pw_below_drewN | apply below_drew1 | refine below_set ?_ GE137.out) | exact HB.out)) hb); clear BK137; clear HB; have BK137 := n0_; have HB := n1_; clear n0_ n1_; (try clear hb); (try clear hb2); (try clear hk); (try clear hi)) | ((with_reducible refine gate_dst (N := 7) rfl ?_); refine box_event ?hg (N := 7) ?hd (cs := #[.int .i64 0, .int .i64 0, .int .i64 0, .int .i64 0]) (t := 26) ?hr ?_; (case hd => rfl); (case hg => rfl); (case hr => first | (go_simp; done) | (go_simp; rfl)); intro gb142 hg w9 hbox hb; have n0_ := Aside0.mk (blk_below (g := gb137) (o := .cells #[.int .i64 a0_0, .int .i64 a0_1, .int .i64 a0_2, .int .i64 a0_3] 26 (0, 0)) (by (with_reducible repeat (first | refine blk_drewN ?_ _ | refine blk_drew ?_ | refine blk_alloc ?_ _)); exact BK137.out) hb); have n1_ := Aside0.mk (below_step (by repeat (first | (with_reducible first | exact HB.out | apply below_alloc | apply pw_below_drewN | apply below_drew1 | refine below_set ?_ GE137.out) | exact HB.out)) hb); have n2_ := Aside0.mk (hbox); have n3_ := Aside0.mk ((by rw [hg]; exact (below_size (by repeat (first | (with_reducible first | exact HB.out | apply below_alloc | apply pw_below_drewN | apply below_drew1 | refine below_set ?_ GE137.out) | exact HB.out))) : w.heap.size ≤ gb142)); have n4_ := Aside0.mk ((by rw [hg]; exact (below_size (by repeat (first | (with_reducible first | exact HB.out | apply below_alloc | apply pw_below_drewN | apply below_drew1 | refine below_set ?_ GE137.out) | exact HB.out))) : w.heap.size ≤ gb142)); have n5_ := Aside0.mk ((by rw [hg]; exact Nat.ne_of_lt (blk_lt (g := gb137) (o := .cells #[.int .i64 a0_0, .int .i64 a0_1, .int .i64 a0_2, .int .i64 a0_3] 26 (0, 0)) (by (with_reducible repeat (first | refine blk_drewN ?_ _ | refine blk_drew ?_ | refine blk_alloc ?_ _)); exact BK137.out)) : gb137 ≠ gb142)); have n6_ := Aside0.mk ((by rw [hg]; exact Nat.ne_of_gt (blk_lt (g := gb137) (o := .cells #[.int .i64 a0_0, .int .i64 a0_1, .int .i64 a0_2, .int .i64 a0_3] 26 (0, 0)) (by (with_reducible repeat (first | refine blk_drewN ?_ _ | refine blk_drew ?_ | refine blk_alloc ?_ _)); exact BK137.out)) : gb142 ≠ gb137)); clear BK137; clear HB; have BK137 := n0_; have HB := n1_; have BK142 := n2_; have GW142 := n3_; have GE142 := n4_; have NB137_142 := n5_; have NB142_137 := n6_; clear n0_ n1_ n2_ n3_ n4_ n5_ n6_; clear hb hbox hg; have hnb10 := NB142_137.out; have hnc10 := NB137_142.out; have hcz11_0 : w9.cell? ⟨gb142, 0, none⟩ = some (.int .i64 0) := (blk_cell BK142.out 0).trans rfl; have hcz11_1 : w9.cell? ⟨gb142, 1, none⟩ = some (.int .i64 0) := (blk_cell BK142.out 1).trans rfl; have hcz11_2 : w9.cell? ⟨gb142, 2, none⟩ = some (.int .i64 0) := (blk_cell BK142.out 2).trans rfl; have hcz11_3 : w9.cell? ⟨gb142, 3, none⟩ = some (.int .i64 0) := (blk_cell BK142.out 3).trans rfl; have hfz11_0 := blk_frozen BK142.out 0; have hfz11_1 := blk_frozen BK142.out 1; have hfz11_2 := blk_frozen BK142.out 2; have hfz11_3 := blk_frozen BK142.out 3))
  (try simp only [Act.put, List.setIfInBounds_toArray, List.set_cons_zero, List.set_cons_succ])
  go_cut [45] (fun v45 wc => ∃ (kq : Nat) (x45_4 : Bool), v45 = .bool x45_4 ∧ Aside0 (laws_FnPaceEnds.j0 kq a1 a2 x45_4 a0_0 a0_1 a0_2 a0_3 t138 t139 t140 t141 = some r) ∧ Aside0 (kq ≤ k) ∧ Aside0 (wc.heap[gb137]? = some (.cells #[.int .i64 a0_0, .int .i64 a0_1, .int .i64 a0_2, .int .i64 a0_3] 26 (0, 0))) ∧ Aside0 (wc.heap[gb142]? = some (.cells #[.int .i64 t138, .int .i64 t139, .int .i64 t140, .int .i64 t141] 26 (0, 0))) ∧ Aside0 (Below w.heap.size w wc))
  case first =>
    have H := HC5.out
    clear HC5
    obtain ⟨ji12, hji12⟩ : ∃ j_ : Int, (mx a2 0) = j_ := ⟨_, rfl⟩
    replace H : ((spec_PaceIn.f a0_0 a0_1 a0_2 a0_3 (ji12) 0 0 0).bind fun t143 => (if t143 = true then (if a2 < 1 then (laws_FnPaceEnds.j0 k a1 a2 true a0_0 a0_1 a0_2 a0_3 t138 t139 t140 t141) else (if t138 > t139 then (laws_FnPaceEnds.j0 k a1 a2 true a0_0 a0_1 a0_2 a0_3 t138 t139 t140 t141) else (if t141 > 1 then (laws_FnPaceEnds.j0 k a1 a2 true a0_0 a0_1 a0_2 a0_3 t138 t139 t140 t141) else (laws_FnPaceEnds.j0 k a1 a2 (decide (t140 > 2)) a0_0 a0_1 a0_2 a0_3 t138 t139 t140 t141)))) else (laws_FnPaceEnds.j0 k a1 a2 true a0_0 a0_1 a0_2 a0_3 t138 t139 t140 t141))) = some r := by first | (rw [hji12] at H; exact H) | (simp only [hji12] at H ⊢; exact H)
    (try (have hji12l : 0 ≤ ji12 := by (rw [← hji12]; unfold mx; (repeat' split) <;> omega)))
    (try (have hji12m : 0 ≤ ji12 := by omega))
    have hji12_ : (if a2 < 0 then 0 else a2) = ji12 := hji12
    replace H := Option.bind_eq_some_iff.mp H
    obtain ⟨t143, A130, H⟩ := H
    replace H : (if t143 = true then (if a2 < 1 then (laws_FnPaceEnds.j0 k a1 a2 true a0_0 a0_1 a0_2 a0_3 t138 t139 t140 t141) else (if t138 > t139 then (laws_FnPaceEnds.j0 k a1 a2 true a0_0 a0_1 a0_2 a0_3 t138 t139 t140 t141) else (if t141 > 1 then (laws_FnPaceEnds.j0 k a1 a2 true a0_0 a0_1 a0_2 a0_3 t138 t139 t140 t141) else (laws_FnPaceEnds.j0 k a1 a2 (decide (t140 > 2)) a0_0 a0_1 a0_2 a0_3 t138 t139 t140 t141)))) else (laws_FnPaceEnds.j0 k a1 a2 true a0_0 a0_1 a0_2 a0_3 t138 t139 t140 t141)) = some r := H
    have A13 := Aside0.mk A130
    clear A130
    by_cases c14 : t143 = true
    · subst c14
      have H1 : (if a2 < 1 then (laws_FnPaceEnds.j0 k a1 a2 true a0_0 a0_1 a0_2 a0_3 t138 t139 t140 t141) else (if t138 > t139 then (laws_FnPaceEnds.j0 k a1 a2 true a0_0 a0_1 a0_2 a0_3 t138 t139 t140 t141) else (if t141 > 1 then (laws_FnPaceEnds.j0 k a1 a2 true a0_0 a0_1 a0_2 a0_3 t138 t139 t140 t141) else (laws_FnPaceEnds.j0 k a1 a2 (decide (t140 > 2)) a0_0 a0_1 a0_2 a0_3 t138 t139 t140 t141)))) = some r := by rw [if_pos rfl] at H; exact H
      clear H
      have H := H1
      clear H1
      by_cases c15 : a2 < 1
      · rw [if_pos c15] at H
        have c15b0 : decide (a2 < 1) = true := decide_eq_true c15
        clear c15
        (first | rw [c15b0] | (simp only [i64_w, i32_w]; rw [c15b0]) | skip)
        have H' := Aside0.mk H
        clear H
        have hnb16 := NB137_142.out
        have hnc16 := NB142_137.out
        have hcz17_0 : w9.cell? ⟨gb137, 0, none⟩ = some (.int .i64 a0_0) := (blk_cell BK137.out 0).trans rfl
        have hcz17_1 : w9.cell? ⟨gb137, 1, none⟩ = some (.int .i64 a0_1) := (blk_cell BK137.out 1).trans rfl
        have hcz17_2 : w9.cell? ⟨gb137, 2, none⟩ = some (.int .i64 a0_2) := (blk_cell BK137.out 2).trans rfl
        have hcz17_3 : w9.cell? ⟨gb137, 3, none⟩ = some (.int .i64 a0_3) := (blk_cell BK137.out 3).trans rfl
        have hfz17_0 := blk_frozen BK137.out 0
        have hfz17_1 := blk_frozen BK137.out 1
        have hfz17_2 := blk_frozen BK137.out 2
        have hfz17_3 := blk_frozen BK137.out 3
        go_wp2_with (first | ((with_reducible refine gate_callee (f := 7) rfl ?_); refine goesL_ (some 23) rfl rfl Try.func7 (by kernel_rfl) rfl #[.agg #[.int .i64 a0_0, .int .i64 a0_1, .int .i64 a0_2, .int .i64 a0_3], .agg #[.int .i64 ji12, .int .i64 0, .int .i64 0, .int .i64 0]] rfl (by (try simp only [List.map_toArray, List.map_cons, List.map_nil]); first | done | (simp only [hji12]; rfl) | rfl | (simp only [List.length_drop, List.length_take]; rfl)) ?_; (with_reducible refine (spec_PaceIn.calls a0_0 a0_1 a0_2 a0_3 ji12 0 0 0 true _ A13.out).mono ?_); rintro e w18 ⟨rfl, hb⟩; refine ⟨_, rfl, ?_⟩; have n0_ := Aside0.mk (blk_below (g := gb137) (o := .cells #[.int .i64 a0_0, .int .i64 a0_1, .int .i64 a0_2, .int .i64 a0_3] 26 (0, 0)) (by (with_reducible repeat (first | refine blk_drewN ?_ _ | refine blk_drew ?_ | refine blk_alloc ?_ _)); refine blk_far ?_ NB137_142.out _; (with_reducible repeat (first | refine blk_drewN ?_ _ | refine blk_drew ?_ | refine blk_alloc ?_ _)); refine blk_far ?_ NB137_142.out _; (with_reducible repeat (first | refine blk_drewN ?_ _ | refine blk_drew ?_ | refine blk_alloc ?_ _)); refine blk_far ?_ NB137_142.out _; (with_reducible repeat (first | refine blk_drewN ?_ _ | refine blk_drew ?_ | refine blk_alloc ?_ _)); refine blk_far ?_ NB137_142.out _; (with_reducible repeat (first | refine blk_drewN ?_ _ | refine blk_drew ?_ | refine blk_alloc ?_ _)); exact BK137.out) hb); have n1_ := Aside0.mk (blk_below (g := gb142) (o := .cells #[.int .i64 t138, .int .i64 t139, .int .i64 t140, .int .i64 t141] 26 (0, 0)) (by (with_reducible repeat (first | refine blk_drewN ?_ _ | refine blk_drew ?_ | refine blk_alloc ?_ _)); refine blk_put (cs := #[.int .i64 t138, .int .i64 t139, .int .i64 t140, .int .i64 0]) ?_ 3 _ rfl; (with_reducible repeat (first | refine blk_drewN ?_ _ | refine blk_drew ?_ | refine blk_alloc ?_ _)); refine blk_put (cs := #[.int .i64 t138, .int .i64 t139, .int .i64 0, .int .i64 0]) ?_ 2 _ rfl; (with_reducible repeat (first | refine blk_drewN ?_ _ | refine blk_drew ?_ | refine blk_alloc ?_ _)); refine blk_put (cs := #[.int .i64 t138, .int .i64 0, .int .i64 0, .int .i64 0]) ?_ 1 _ rfl; (with_reducible repeat (first | refine blk_drewN ?_ _ | refine blk_drew ?_ | refine blk_alloc ?_ _)); refine blk_put (cs := #[.int .i64 0, .int .i64 0, .int .i64 0, .int .i64 0]) ?_ 0 _ rfl; (with_reducible repeat (first | refine blk_drewN ?_ _ | refine blk_drew ?_ | refine blk_alloc ?_ _)); exact BK142.out) hb); have n2_ := Aside0.mk (below_step (by repeat (first | (with_reducible first | exact HB.out | apply below_alloc | apply pw_below_drewN | apply below_drew1 | refine below_set ?_ GE137.out | refine below_set ?_ GE142.out) | exact HB.out)) hb); clear BK137; clear BK142; clear HB; have BK137 := n0_; have BK142 := n1_; have HB := n2_; clear n0_ n1_ n2_; (try clear hb); (try clear hb2); (try clear hk); (try clear hi)))
        go_meet
        case rel => exact ⟨_, (true), (by first | rfl | (simp; done) | (simp [*]; done)), H', ⟨by first | omega | exact Nat.le_refl _⟩, ⟨by (with_reducible repeat (first | refine blk_drewN ?_ _ | refine blk_drew ?_ | refine blk_alloc ?_ _)); exact BK137.out⟩, ⟨by (with_reducible repeat (first | refine blk_drewN ?_ _ | refine blk_drew ?_ | refine blk_alloc ?_ _)); exact BK142.out⟩, ⟨by repeat (first | (with_reducible first | exact HB.out | apply below_alloc | apply pw_below_drewN | apply below_drew1 | refine below_set ?_ GE137.out | refine below_set ?_ GE142.out) | exact HB.out)⟩⟩
      · rw [if_neg c15] at H
        have c15b0 : decide (a2 < 1) = false := decide_eq_false c15
        clear c15
        (first | rw [c15b0] | (simp only [i64_w, i32_w]; rw [c15b0]) | skip)
        by_cases c19 : t138 > t139
        · rw [if_pos c19] at H
          have c19b0 : decide (t139 < t138) = true := decide_eq_true c19
          clear c19
          have H' := Aside0.mk H
          clear H
          have hnb20 := NB137_142.out
          have hnc20 := NB142_137.out
          have hcz21_0 : w9.cell? ⟨gb137, 0, none⟩ = some (.int .i64 a0_0) := (blk_cell BK137.out 0).trans rfl
          have hcz21_1 : w9.cell? ⟨gb137, 1, none⟩ = some (.int .i64 a0_1) := (blk_cell BK137.out 1).trans rfl
          have hcz21_2 : w9.cell? ⟨gb137, 2, none⟩ = some (.int .i64 a0_2) := (blk_cell BK137.out 2).trans rfl
          have hcz21_3 : w9.cell? ⟨gb137, 3, none⟩ = some (.int .i64 a0_3) := (blk_cell BK137.out 3).trans rfl
          have hfz21_0 := blk_frozen BK137.out 0
          have hfz21_1 := blk_frozen BK137.out 1
          have hfz21_2 := blk_frozen BK137.out 2
          have hfz21_3 := blk_frozen BK137.out 3
          go_wp2_with (first | ((with_reducible refine gate_callee (f := 7) rfl ?_); refine goesL_ (some 23) rfl rfl Try.func7 (by kernel_rfl) rfl #[.agg #[.int .i64 a0_0, .int .i64 a0_1, .int .i64 a0_2, .int .i64 a0_3], .agg #[.int .i64 ji12, .int .i64 0, .int .i64 0, .int .i64 0]] rfl (by (try simp only [List.map_toArray, List.map_cons, List.map_nil]); first | done | (simp only [hji12]; rfl) | rfl | (simp only [List.length_drop, List.length_take]; rfl)) ?_; (with_reducible refine (spec_PaceIn.calls a0_0 a0_1 a0_2 a0_3 ji12 0 0 0 true _ A13.out).mono ?_); rintro e w22 ⟨rfl, hb⟩; refine ⟨_, rfl, ?_⟩; have n0_ := Aside0.mk (blk_below (g := gb137) (o := .cells #[.int .i64 a0_0, .int .i64 a0_1, .int .i64 a0_2, .int .i64 a0_3] 26 (0, 0)) (by (with_reducible repeat (first | refine blk_drewN ?_ _ | refine blk_drew ?_ | refine blk_alloc ?_ _)); refine blk_far ?_ NB137_142.out _; (with_reducible repeat (first | refine blk_drewN ?_ _ | refine blk_drew ?_ | refine blk_alloc ?_ _)); refine blk_far ?_ NB137_142.out _; (with_reducible repeat (first | refine blk_drewN ?_ _ | refine blk_drew ?_ | refine blk_alloc ?_ _)); refine blk_far ?_ NB137_142.out _; (with_reducible repeat (first | refine blk_drewN ?_ _ | refine blk_drew ?_ | refine blk_alloc ?_ _)); refine blk_far ?_ NB137_142.out _; (with_reducible repeat (first | refine blk_drewN ?_ _ | refine blk_drew ?_ | refine blk_alloc ?_ _)); exact BK137.out) hb); have n1_ := Aside0.mk (blk_below (g := gb142) (o := .cells #[.int .i64 t138, .int .i64 t139, .int .i64 t140, .int .i64 t141] 26 (0, 0)) (by (with_reducible repeat (first | refine blk_drewN ?_ _ | refine blk_drew ?_ | refine blk_alloc ?_ _)); refine blk_put (cs := #[.int .i64 t138, .int .i64 t139, .int .i64 t140, .int .i64 0]) ?_ 3 _ rfl; (with_reducible repeat (first | refine blk_drewN ?_ _ | refine blk_drew ?_ | refine blk_alloc ?_ _)); refine blk_put (cs := #[.int .i64 t138, .int .i64 t139, .int .i64 0, .int .i64 0]) ?_ 2 _ rfl; (with_reducible repeat (first | refine blk_drewN ?_ _ | refine blk_drew ?_ | refine blk_alloc ?_ _)); refine blk_put (cs := #[.int .i64 t138, .int .i64 0, .int .i64 0, .int .i64 0]) ?_ 1 _ rfl; (with_reducible repeat (first | refine blk_drewN ?_ _ | refine blk_drew ?_ | refine blk_alloc ?_ _)); refine blk_put (cs := #[.int .i64 0, .int .i64 0, .int .i64 0, .int .i64 0]) ?_ 0 _ rfl; (with_reducible repeat (first | refine blk_drewN ?_ _ | refine blk_drew ?_ | refine blk_alloc ?_ _)); exact BK142.out) hb); have n2_ := Aside0.mk (below_step (by repeat (first | (with_reducible first | exact HB.out | apply below_alloc | apply pw_below_drewN | apply below_drew1 | refine below_set ?_ GE137.out | refine below_set ?_ GE142.out) | exact HB.out)) hb); clear BK137; clear BK142; clear HB; have BK137 := n0_; have BK142 := n1_; have HB := n2_; clear n0_ n1_ n2_; (try clear hb); (try clear hb2); (try clear hk); (try clear hi); have hcz23_0 : w22.cell? ⟨gb142, 0, none⟩ = some (.int .i64 t138) := (blk_cell BK142.out 0).trans rfl; have hcz23_1 : w22.cell? ⟨gb142, 1, none⟩ = some (.int .i64 t139) := (blk_cell BK142.out 1).trans rfl; have hcz23_2 : w22.cell? ⟨gb142, 2, none⟩ = some (.int .i64 t140) := (blk_cell BK142.out 2).trans rfl; have hcz23_3 : w22.cell? ⟨gb142, 3, none⟩ = some (.int .i64 t141) := (blk_cell BK142.out 3).trans rfl; have hfz23_0 := blk_frozen BK142.out 0; have hfz23_1 := blk_frozen BK142.out 1; have hfz23_2 := blk_frozen BK142.out 2; have hfz23_3 := blk_frozen BK142.out 3))
          go_meet
          case rel => exact ⟨_, (true), (by first | rfl | (simp; done) | (simp [*]; done)), H', ⟨by first | omega | exact Nat.le_refl _⟩, ⟨by (with_reducible repeat (first | refine blk_drewN ?_ _ | refine blk_drew ?_ | refine blk_alloc ?_ _)); exact BK137.out⟩, ⟨by (with_reducible repeat (first | refine blk_drewN ?_ _ | refine blk_drew ?_ | refine blk_alloc ?_ _)); exact BK142.out⟩, ⟨by repeat (first | (with_reducible first | exact HB.out | apply below_alloc | apply pw_below_drewN | apply below_drew1 | refine below_set ?_ GE137.out | refine below_set ?_ GE142.out) | exact HB.out)⟩⟩
        · rw [if_neg c19] at H
          have c19b0 : decide (t139 < t138) = false := decide_eq_false c19
          clear c19
          by_cases c24 : t141 > 1
          · rw [if_pos c24] at H
            have c24b0 : decide (1 < t141) = true := decide_eq_true c24
            clear c24
            have H' := Aside0.mk H
            clear H
            have hnb25 := NB137_142.out
            have hnc25 := NB142_137.out
            have hcz26_0 : w9.cell? ⟨gb137, 0, none⟩ = some (.int .i64 a0_0) := (blk_cell BK137.out 0).trans rfl
            have hcz26_1 : w9.cell? ⟨gb137, 1, none⟩ = some (.int .i64 a0_1) := (blk_cell BK137.out 1).trans rfl
            have hcz26_2 : w9.cell? ⟨gb137, 2, none⟩ = some (.int .i64 a0_2) := (blk_cell BK137.out 2).trans rfl
            have hcz26_3 : w9.cell? ⟨gb137, 3, none⟩ = some (.int .i64 a0_3) := (blk_cell BK137.out 3).trans rfl
            have hfz26_0 := blk_frozen BK137.out 0
            have hfz26_1 := blk_frozen BK137.out 1
            have hfz26_2 := blk_frozen BK137.out 2
            have hfz26_3 := blk_frozen BK137.out 3
            go_wp2_with (first | ((with_reducible refine gate_callee (f := 7) rfl ?_); refine goesL_ (some 23) rfl rfl Try.func7 (by kernel_rfl) rfl #[.agg #[.int .i64 a0_0, .int .i64 a0_1, .int .i64 a0_2, .int .i64 a0_3], .agg #[.int .i64 ji12, .int .i64 0, .int .i64 0, .int .i64 0]] rfl (by (try simp only [List.map_toArray, List.map_cons, List.map_nil]); first | done | (simp only [hji12]; rfl) | rfl | (simp only [List.length_drop, List.length_take]; rfl)) ?_; (with_reducible refine (spec_PaceIn.calls a0_0 a0_1 a0_2 a0_3 ji12 0 0 0 true _ A13.out).mono ?_); rintro e w27 ⟨rfl, hb⟩; refine ⟨_, rfl, ?_⟩; have n0_ := Aside0.mk (blk_below (g := gb137) (o := .cells #[.int .i64 a0_0, .int .i64 a0_1, .int .i64 a0_2, .int .i64 a0_3] 26 (0, 0)) (by (with_reducible repeat (first | refine blk_drewN ?_ _ | refine blk_drew ?_ | refine blk_alloc ?_ _)); refine blk_far ?_ NB137_142.out _; (with_reducible repeat (first | refine blk_drewN ?_ _ | refine blk_drew ?_ | refine blk_alloc ?_ _)); refine blk_far ?_ NB137_142.out _; (with_reducible repeat (first | refine blk_drewN ?_ _ | refine blk_drew ?_ | refine blk_alloc ?_ _)); refine blk_far ?_ NB137_142.out _; (with_reducible repeat (first | refine blk_drewN ?_ _ | refine blk_drew ?_ | refine blk_alloc ?_ _)); refine blk_far ?_ NB137_142.out _; (with_reducible repeat (first | refine blk_drewN ?_ _ | refine blk_drew ?_ | refine blk_alloc ?_ _)); exact BK137.out) hb); have n1_ := Aside0.mk (blk_below (g := gb142) (o := .cells #[.int .i64 t138, .int .i64 t139, .int .i64 t140, .int .i64 t141] 26 (0, 0)) (by (with_reducible repeat (first | refine blk_drewN ?_ _ | refine blk_drew ?_ | refine blk_alloc ?_ _)); refine blk_put (cs := #[.int .i64 t138, .int .i64 t139, .int .i64 t140, .int .i64 0]) ?_ 3 _ rfl; (with_reducible repeat (first | refine blk_drewN ?_ _ | refine blk_drew ?_ | refine blk_alloc ?_ _)); refine blk_put (cs := #[.int .i64 t138, .int .i64 t139, .int .i64 0, .int .i64 0]) ?_ 2 _ rfl; (with_reducible repeat (first | refine blk_drewN ?_ _ | refine blk_drew ?_ | refine blk_alloc ?_ _)); refine blk_put (cs := #[.int .i64 t138, .int .i64 0, .int .i64 0, .int .i64 0]) ?_ 1 _ rfl; (with_reducible repeat (first | refine blk_drewN ?_ _ | refine blk_drew ?_ | refine blk_alloc ?_ _)); refine blk_put (cs := #[.int .i64 0, .int .i64 0, .int .i64 0, .int .i64 0]) ?_ 0 _ rfl; (with_reducible repeat (first | refine blk_drewN ?_ _ | refine blk_drew ?_ | refine blk_alloc ?_ _)); exact BK142.out) hb); have n2_ := Aside0.mk (below_step (by repeat (first | (with_reducible first | exact HB.out | apply below_alloc | apply pw_below_drewN | apply below_drew1 | refine below_set ?_ GE137.out | refine below_set ?_ GE142.out) | exact HB.out)) hb); clear BK137; clear BK142; clear HB; have BK137 := n0_; have BK142 := n1_; have HB := n2_; clear n0_ n1_ n2_; (try clear hb); (try clear hb2); (try clear hk); (try clear hi); have hcz28_0 : w27.cell? ⟨gb142, 0, none⟩ = some (.int .i64 t138) := (blk_cell BK142.out 0).trans rfl; have hcz28_1 : w27.cell? ⟨gb142, 1, none⟩ = some (.int .i64 t139) := (blk_cell BK142.out 1).trans rfl; have hcz28_2 : w27.cell? ⟨gb142, 2, none⟩ = some (.int .i64 t140) := (blk_cell BK142.out 2).trans rfl; have hcz28_3 : w27.cell? ⟨gb142, 3, none⟩ = some (.int .i64 t141) := (blk_cell BK142.out 3).trans rfl; have hfz28_0 := blk_frozen BK142.out 0; have hfz28_1 := blk_frozen BK142.out 1; have hfz28_2 := blk_frozen BK142.out 2; have hfz28_3 := blk_frozen BK142.out 3))
            go_meet
            case rel => exact ⟨_, (true), (by first | rfl | (simp; done) | (simp [*]; done)), H', ⟨by first | omega | exact Nat.le_refl _⟩, ⟨by (with_reducible repeat (first | refine blk_drewN ?_ _ | refine blk_drew ?_ | refine blk_alloc ?_ _)); exact BK137.out⟩, ⟨by (with_reducible repeat (first | refine blk_drewN ?_ _ | refine blk_drew ?_ | refine blk_alloc ?_ _)); exact BK142.out⟩, ⟨by repeat (first | (with_reducible first | exact HB.out | apply below_alloc | apply pw_below_drewN | apply below_drew1 | refine below_set ?_ GE137.out | refine below_set ?_ GE142.out) | exact HB.out)⟩⟩
          · rw [if_neg c24] at H
            have c24b0 : decide (1 < t141) = false := decide_eq_false c24
            clear c24
            have H' := Aside0.mk H
            clear H
            have hnb29 := NB137_142.out
            have hnc29 := NB142_137.out
            have hcz30_0 : w9.cell? ⟨gb137, 0, none⟩ = some (.int .i64 a0_0) := (blk_cell BK137.out 0).trans rfl
            have hcz30_1 : w9.cell? ⟨gb137, 1, none⟩ = some (.int .i64 a0_1) := (blk_cell BK137.out 1).trans rfl
            have hcz30_2 : w9.cell? ⟨gb137, 2, none⟩ = some (.int .i64 a0_2) := (blk_cell BK137.out 2).trans rfl
            have hcz30_3 : w9.cell? ⟨gb137, 3, none⟩ = some (.int .i64 a0_3) := (blk_cell BK137.out 3).trans rfl
            have hfz30_0 := blk_frozen BK137.out 0
            have hfz30_1 := blk_frozen BK137.out 1
            have hfz30_2 := blk_frozen BK137.out 2
            have hfz30_3 := blk_frozen BK137.out 3
            go_wp2_with (first | ((with_reducible refine gate_callee (f := 7) rfl ?_); refine goesL_ (some 23) rfl rfl Try.func7 (by kernel_rfl) rfl #[.agg #[.int .i64 a0_0, .int .i64 a0_1, .int .i64 a0_2, .int .i64 a0_3], .agg #[.int .i64 ji12, .int .i64 0, .int .i64 0, .int .i64 0]] rfl (by (try simp only [List.map_toArray, List.map_cons, List.map_nil]); first | done | (simp only [hji12]; rfl) | rfl | (simp only [List.length_drop, List.length_take]; rfl)) ?_; (with_reducible refine (spec_PaceIn.calls a0_0 a0_1 a0_2 a0_3 ji12 0 0 0 true _ A13.out).mono ?_); rintro e w31 ⟨rfl, hb⟩; refine ⟨_, rfl, ?_⟩; have n0_ := Aside0.mk (blk_below (g := gb137) (o := .cells #[.int .i64 a0_0, .int .i64 a0_1, .int .i64 a0_2, .int .i64 a0_3] 26 (0, 0)) (by (with_reducible repeat (first | refine blk_drewN ?_ _ | refine blk_drew ?_ | refine blk_alloc ?_ _)); refine blk_far ?_ NB137_142.out _; (with_reducible repeat (first | refine blk_drewN ?_ _ | refine blk_drew ?_ | refine blk_alloc ?_ _)); refine blk_far ?_ NB137_142.out _; (with_reducible repeat (first | refine blk_drewN ?_ _ | refine blk_drew ?_ | refine blk_alloc ?_ _)); refine blk_far ?_ NB137_142.out _; (with_reducible repeat (first | refine blk_drewN ?_ _ | refine blk_drew ?_ | refine blk_alloc ?_ _)); refine blk_far ?_ NB137_142.out _; (with_reducible repeat (first | refine blk_drewN ?_ _ | refine blk_drew ?_ | refine blk_alloc ?_ _)); exact BK137.out) hb); have n1_ := Aside0.mk (blk_below (g := gb142) (o := .cells #[.int .i64 t138, .int .i64 t139, .int .i64 t140, .int .i64 t141] 26 (0, 0)) (by (with_reducible repeat (first | refine blk_drewN ?_ _ | refine blk_drew ?_ | refine blk_alloc ?_ _)); refine blk_put (cs := #[.int .i64 t138, .int .i64 t139, .int .i64 t140, .int .i64 0]) ?_ 3 _ rfl; (with_reducible repeat (first | refine blk_drewN ?_ _ | refine blk_drew ?_ | refine blk_alloc ?_ _)); refine blk_put (cs := #[.int .i64 t138, .int .i64 t139, .int .i64 0, .int .i64 0]) ?_ 2 _ rfl; (with_reducible repeat (first | refine blk_drewN ?_ _ | refine blk_drew ?_ | refine blk_alloc ?_ _)); refine blk_put (cs := #[.int .i64 t138, .int .i64 0, .int .i64 0, .int .i64 0]) ?_ 1 _ rfl; (with_reducible repeat (first | refine blk_drewN ?_ _ | refine blk_drew ?_ | refine blk_alloc ?_ _)); refine blk_put (cs := #[.int .i64 0, .int .i64 0, .int .i64 0, .int .i64 0]) ?_ 0 _ rfl; (with_reducible repeat (first | refine blk_drewN ?_ _ | refine blk_drew ?_ | refine blk_alloc ?_ _)); exact BK142.out) hb); have n2_ := Aside0.mk (below_step (by repeat (first | (with_reducible first | exact HB.out | apply below_alloc | apply pw_below_drewN | apply below_drew1 | refine below_set ?_ GE137.out | refine below_set ?_ GE142.out) | exact HB.out)) hb); clear BK137; clear BK142; clear HB; have BK137 := n0_; have BK142 := n1_; have HB := n2_; clear n0_ n1_ n2_; (try clear hb); (try clear hb2); (try clear hk); (try clear hi); have hcz32_0 : w31.cell? ⟨gb142, 0, none⟩ = some (.int .i64 t138) := (blk_cell BK142.out 0).trans rfl; have hcz32_1 : w31.cell? ⟨gb142, 1, none⟩ = some (.int .i64 t139) := (blk_cell BK142.out 1).trans rfl; have hcz32_2 : w31.cell? ⟨gb142, 2, none⟩ = some (.int .i64 t140) := (blk_cell BK142.out 2).trans rfl; have hcz32_3 : w31.cell? ⟨gb142, 3, none⟩ = some (.int .i64 t141) := (blk_cell BK142.out 3).trans rfl; have hfz32_0 := blk_frozen BK142.out 0; have hfz32_1 := blk_frozen BK142.out 1; have hfz32_2 := blk_frozen BK142.out 2; have hfz32_3 := blk_frozen BK142.out 3))
            go_meet
            case rel => exact ⟨_, (decide (t140 > 2)), (by first | rfl | (simp; done) | (simp [*]; done)), H', ⟨by first | omega | exact Nat.le_refl _⟩, ⟨by (with_reducible repeat (first | refine blk_drewN ?_ _ | refine blk_drew ?_ | refine blk_alloc ?_ _)); exact BK137.out⟩, ⟨by (with_reducible repeat (first | refine blk_drewN ?_ _ | refine blk_drew ?_ | refine blk_alloc ?_ _)); exact BK142.out⟩, ⟨by repeat (first | (with_reducible first | exact HB.out | apply below_alloc | apply pw_below_drewN | apply below_drew1 | refine below_set ?_ GE137.out | refine below_set ?_ GE142.out) | exact HB.out)⟩⟩
    · replace c14 := Bool.eq_false_iff.mpr c14
      subst c14
      have H1 : (laws_FnPaceEnds.j0 k a1 a2 true a0_0 a0_1 a0_2 a0_3 t138 t139 t140 t141) = some r := by rw [if_neg (show ¬ (false = true) by decide)] at H; exact H
      clear H
      have H := H1
      clear H1
      have H' := Aside0.mk H
      clear H
      have hnb33 := NB137_142.out
      have hnc33 := NB142_137.out
      have hcz34_0 : w9.cell? ⟨gb137, 0, none⟩ = some (.int .i64 a0_0) := (blk_cell BK137.out 0).trans rfl
      have hcz34_1 : w9.cell? ⟨gb137, 1, none⟩ = some (.int .i64 a0_1) := (blk_cell BK137.out 1).trans rfl
      have hcz34_2 : w9.cell? ⟨gb137, 2, none⟩ = some (.int .i64 a0_2) := (blk_cell BK137.out 2).trans rfl
      have hcz34_3 : w9.cell? ⟨gb137, 3, none⟩ = some (.int .i64 a0_3) := (blk_cell BK137.out 3).trans rfl
      have hfz34_0 := blk_frozen BK137.out 0
      have hfz34_1 := blk_frozen BK137.out 1
      have hfz34_2 := blk_frozen BK137.out 2
      have hfz34_3 := blk_frozen BK137.out 3
      go_wp2_with (first | ((with_reducible refine gate_callee (f := 7) rfl ?_); refine goesL_ (some 23) rfl rfl Try.func7 (by kernel_rfl) rfl #[.agg #[.int .i64 a0_0, .int .i64 a0_1, .int .i64 a0_2, .int .i64 a0_3], .agg #[.int .i64 ji12, .int .i64 0, .int .i64 0, .int .i64 0]] rfl (by (try simp only [List.map_toArray, List.map_cons, List.map_nil]); first | done | (simp only [hji12]; rfl) | rfl | (simp only [List.length_drop, List.length_take]; rfl)) ?_; (with_reducible refine (spec_PaceIn.calls a0_0 a0_1 a0_2 a0_3 ji12 0 0 0 false _ A13.out).mono ?_); rintro e w35 ⟨rfl, hb⟩; refine ⟨_, rfl, ?_⟩; have n0_ := Aside0.mk (blk_below (g := gb137) (o := .cells #[.int .i64 a0_0, .int .i64 a0_1, .int .i64 a0_2, .int .i64 a0_3] 26 (0, 0)) (by (with_reducible repeat (first | refine blk_drewN ?_ _ | refine blk_drew ?_ | refine blk_alloc ?_ _)); refine blk_far ?_ NB137_142.out _; (with_reducible repeat (first | refine blk_drewN ?_ _ | refine blk_drew ?_ | refine blk_alloc ?_ _)); refine blk_far ?_ NB137_142.out _; (with_reducible repeat (first | refine blk_drewN ?_ _ | refine blk_drew ?_ | refine blk_alloc ?_ _)); refine blk_far ?_ NB137_142.out _; (with_reducible repeat (first | refine blk_drewN ?_ _ | refine blk_drew ?_ | refine blk_alloc ?_ _)); refine blk_far ?_ NB137_142.out _; (with_reducible repeat (first | refine blk_drewN ?_ _ | refine blk_drew ?_ | refine blk_alloc ?_ _)); exact BK137.out) hb); have n1_ := Aside0.mk (blk_below (g := gb142) (o := .cells #[.int .i64 t138, .int .i64 t139, .int .i64 t140, .int .i64 t141] 26 (0, 0)) (by (with_reducible repeat (first | refine blk_drewN ?_ _ | refine blk_drew ?_ | refine blk_alloc ?_ _)); refine blk_put (cs := #[.int .i64 t138, .int .i64 t139, .int .i64 t140, .int .i64 0]) ?_ 3 _ rfl; (with_reducible repeat (first | refine blk_drewN ?_ _ | refine blk_drew ?_ | refine blk_alloc ?_ _)); refine blk_put (cs := #[.int .i64 t138, .int .i64 t139, .int .i64 0, .int .i64 0]) ?_ 2 _ rfl; (with_reducible repeat (first | refine blk_drewN ?_ _ | refine blk_drew ?_ | refine blk_alloc ?_ _)); refine blk_put (cs := #[.int .i64 t138, .int .i64 0, .int .i64 0, .int .i64 0]) ?_ 1 _ rfl; (with_reducible repeat (first | refine blk_drewN ?_ _ | refine blk_drew ?_ | refine blk_alloc ?_ _)); refine blk_put (cs := #[.int .i64 0, .int .i64 0, .int .i64 0, .int .i64 0]) ?_ 0 _ rfl; (with_reducible repeat (first | refine blk_drewN ?_ _ | refine blk_drew ?_ | refine blk_alloc ?_ _)); exact BK142.out) hb); have n2_ := Aside0.mk (below_step (by repeat (first | (with_reducible first | exact HB.out | apply below_alloc | apply pw_below_drewN | apply below_drew1 | refine below_set ?_ GE137.out | refine below_set ?_ GE142.out) | exact HB.out)) hb); clear BK137; clear BK142; clear HB; have BK137 := n0_; have BK142 := n1_; have HB := n2_; clear n0_ n1_ n2_; (try clear hb); (try clear hb2); (try clear hk); (try clear hi)))
      go_meet
      case rel => exact ⟨_, (true), (by first | rfl | (simp; done) | (simp [*]; done)), H', ⟨by first | omega | exact Nat.le_refl _⟩, ⟨by (with_reducible repeat (first | refine blk_drewN ?_ _ | refine blk_drew ?_ | refine blk_alloc ?_ _)); exact BK137.out⟩, ⟨by (with_reducible repeat (first | refine blk_drewN ?_ _ | refine blk_drew ?_ | refine blk_alloc ?_ _)); exact BK142.out⟩, ⟨by repeat (first | (with_reducible first | exact HB.out | apply below_alloc | apply pw_below_drewN | apply below_drew1 | refine below_set ?_ GE137.out | refine below_set ?_ GE142.out) | exact HB.out)⟩⟩
  case rest =>
    clear HC5
    try clear c1
    try clear c2
    try clear p2
    try clear c3
    try clear c5
    try clear c7
    try clear c10
    try clear c13
    try clear c14
    try clear c15
    try clear c15b0
    try clear c16
    try clear c19
    try clear c19b0
    try clear c20
    try clear c24
    try clear c24b0
    try clear c25
    try clear c29
    try clear c33
    try clear hcz11_0
    try clear hcz11_1
    try clear hcz11_2
    try clear hcz11_3
    try clear hcz17_0
    try clear hcz17_1
    try clear hcz17_2
    try clear hcz17_3
    try clear hcz21_0
    try clear hcz21_1
    try clear hcz21_2
    try clear hcz21_3
    try clear hcz23_0
    try clear hcz23_1
    try clear hcz23_2
    try clear hcz23_3
    try clear hcz26_0
    try clear hcz26_1
    try clear hcz26_2
    try clear hcz26_3
    try clear hcz28_0
    try clear hcz28_1
    try clear hcz28_2
    try clear hcz28_3
    try clear hcz30_0
    try clear hcz30_1
    try clear hcz30_2
    try clear hcz30_3
    try clear hcz32_0
    try clear hcz32_1
    try clear hcz32_2
    try clear hcz32_3
    try clear hcz34_0
    try clear hcz34_1
    try clear hcz34_2
    try clear hcz34_3
    try clear hcz7_0
    try clear hcz7_1
    try clear hcz7_2
    try clear hcz7_3
    try clear hfz11_0
    try clear hfz11_1
    try clear hfz11_2
    try clear hfz11_3
    try clear hfz17_0
    try clear hfz17_1
    try clear hfz17_2
    try clear hfz17_3
    try clear hfz21_0
    try clear hfz21_1
    try clear hfz21_2
    try clear hfz21_3
    try clear hfz23_0
    try clear hfz23_1
    try clear hfz23_2
    try clear hfz23_3
    try clear hfz26_0
    try clear hfz26_1
    try clear hfz26_2
    try clear hfz26_3
    try clear hfz28_0
    try clear hfz28_1
    try clear hfz28_2
    try clear hfz28_3
    try clear hfz30_0
    try clear hfz30_1
    try clear hfz30_2
    try clear hfz30_3
    try clear hfz32_0
    try clear hfz32_1
    try clear hfz32_2
    try clear hfz32_3
    try clear hfz34_0
    try clear hfz34_1
    try clear hfz34_2
    try clear hfz34_3
    try clear hfz7_0
    try clear hfz7_1
    try clear hfz7_2
    try clear hfz7_3
    obtain ⟨kq, x45_4, rfl, HA, HJ4, BK137, BK142, HB⟩ := hcut
    cases kq with
    | zero => exact absurd HA.out (by simp [laws_FnPaceEnds.j0])
    | succ kj4 =>
      have H := HA.out
      clear HA
      simp only [laws_FnPaceEnds.j0] at H
      by_cases c36 : x45_4 = true
      · subst c36
        have H1 : (some true) = some r := by rw [if_pos rfl] at H; exact H
        clear H
        have H := H1
        clear H1
        obtain rfl := Option.some.inj H
        go_wp2
        go_ret
        exact ⟨by first | rfl | (simp [errW_none, errW_some] <;> rfl) | (simp [*, errW_none, errW_some] <;> rfl), by repeat (first | (with_reducible first | exact HB.out | apply below_alloc | apply pw_below_drewN | apply below_drew1 | refine below_set ?_ GE137.out | refine below_set ?_ GE142.out) | exact HB.out)⟩
      · replace c36 := Bool.eq_false_iff.mpr c36
        subst c36
        have H1 : (laws_FnPaceEnds.l0 kj4 a1 a2 ([] : List Bool) ([] : List Int) 0 a0_0 a0_1 a0_2 a0_3 t138 t139 t140 t141) = some r := by rw [if_neg (show ¬ (false = true) by decide)] at H; exact H
        clear H
        have H := H1
        clear H1
        have H' := Aside0.mk H
        clear H
        go_wp2
        go_loopg [8, 9, 46] kj4 (fun kq v8 v9 v46 w' => ∃ (x8_2 : List Bool) (x9_2 : List Int) (x46_2 : Int), v46 = .int .i64 x46_2 ∧ Aside0 (laws_FnPaceEnds.l0 kq a1 a2 x8_2 x9_2 x46_2 a0_0 a0_1 a0_2 a0_3 t138 t139 t140 t141 = some r) ∧ Aside0 (kq ≤ kj4) ∧ Aside0 (Kd.R Kd.bool 4 w' w.heap.size (fun _ => True) v8 x8_2) ∧ Aside0 (Kd.R (Kd.int .i64) 3 w' w.heap.size (fun _ => True) v9 x9_2) ∧ Aside0 (w'.heap[gb137]? = some (.cells #[.int .i64 a0_0, .int .i64 a0_1, .int .i64 a0_2, .int .i64 a0_3] 26 (0, 0))) ∧ Aside0 (w'.heap[gb142]? = some (.cells #[.int .i64 t138, .int .i64 t139, .int .i64 t140, .int .i64 t141] 26 (0, 0))) ∧ Aside0 (Below w.heap.size w w'))
        case atStart => exact ⟨(([] : List Bool)), (([] : List Int)), (0), (by first | rfl | (simp; done) | (simp [*]; done)), H', ⟨Nat.le_refl _⟩, ⟨by first | exact Kd.R_nil _ _ _ _ _ | exact Kd.N_nil _ _ _ _ _ | exact Kd.V_nil _ _ _ _ _ | exact Kd.Q_nil _ _ _ _ _ | exact Kd.S_nil _ _ _ _ _⟩, ⟨by first | exact Kd.R_nil _ _ _ _ _ | exact Kd.N_nil _ _ _ _ _ | exact Kd.V_nil _ _ _ _ _ | exact Kd.Q_nil _ _ _ _ _ | exact Kd.S_nil _ _ _ _ _⟩, ⟨by (with_reducible repeat (first | refine blk_drewN ?_ _ | refine blk_drew ?_ | refine blk_alloc ?_ _)); exact BK137.out⟩, ⟨by (with_reducible repeat (first | refine blk_drewN ?_ _ | refine blk_drew ?_ | refine blk_alloc ?_ _)); exact BK142.out⟩, ⟨by repeat (first | (with_reducible first | exact HB.out | apply below_alloc | apply pw_below_drewN | apply below_drew1 | refine below_set ?_ GE137.out | refine below_set ?_ GE142.out) | exact HB.out)⟩⟩
        case round =>
          clear H'
          try clear c1
          try clear c2
          try clear p2
          try clear c3
          try clear c5
          try clear c7
          try clear c10
          try clear c13
          try clear c14
          try clear c15
          try clear c15b0
          try clear c16
          try clear c19
          try clear c19b0
          try clear c20
          try clear c24
          try clear c24b0
          try clear c25
          try clear c29
          try clear c33
          try clear c36
          try clear hcz11_0
          try clear hcz11_1
          try clear hcz11_2
          try clear hcz11_3
          try clear hcz17_0
          try clear hcz17_1
          try clear hcz17_2
          try clear hcz17_3
          try clear hcz21_0
          try clear hcz21_1
          try clear hcz21_2
          try clear hcz21_3
          try clear hcz23_0
          try clear hcz23_1
          try clear hcz23_2
          try clear hcz23_3
          try clear hcz26_0
          try clear hcz26_1
          try clear hcz26_2
          try clear hcz26_3
          try clear hcz28_0
          try clear hcz28_1
          try clear hcz28_2
          try clear hcz28_3
          try clear hcz30_0
          try clear hcz30_1
          try clear hcz30_2
          try clear hcz30_3
          try clear hcz32_0
          try clear hcz32_1
          try clear hcz32_2
          try clear hcz32_3
          try clear hcz34_0
          try clear hcz34_1
          try clear hcz34_2
          try clear hcz34_3
          try clear hcz7_0
          try clear hcz7_1
          try clear hcz7_2
          try clear hcz7_3
          try clear hfz11_0
          try clear hfz11_1
          try clear hfz11_2
          try clear hfz11_3
          try clear hfz17_0
          try clear hfz17_1
          try clear hfz17_2
          try clear hfz17_3
          try clear hfz21_0
          try clear hfz21_1
          try clear hfz21_2
          try clear hfz21_3
          try clear hfz23_0
          try clear hfz23_1
          try clear hfz23_2
          try clear hfz23_3
          try clear hfz26_0
          try clear hfz26_1
          try clear hfz26_2
          try clear hfz26_3
          try clear hfz28_0
          try clear hfz28_1
          try clear hfz28_2
          try clear hfz28_3
          try clear hfz30_0
          try clear hfz30_1
          try clear hfz30_2
          try clear hfz30_3
          try clear hfz32_0
          try clear hfz32_1
          try clear hfz32_2
          try clear hfz32_3
          try clear hfz34_0
          try clear hfz34_1
          try clear hfz34_2
          try clear hfz34_3
          try clear hfz7_0
          try clear hfz7_1
          try clear hfz7_2
          try clear hfz7_3
          try clear p2
          obtain ⟨x8_2, x9_2, x46_2, rfl, HA, HK2, HO_8, HO_9, BK137, BK142, HB⟩ := hrel
          cases gk with
          | zero => exact absurd HA.out (by simp [laws_FnPaceEnds.l0])
          | succ k2 =>
            have H := HA.out
            clear HA
            simp only [laws_FnPaceEnds.l0] at H
            by_cases c37 : x46_2 < 220
            · rw [if_pos c37] at H
              have c37b0 : decide (x46_2 < 220) = true := decide_eq_true c37
              clear c37
              by_cases c38 : x8_2.length < 140737488355328
              · rw [if_pos c38] at H
                have LMc38 := Aside0.mk c38
                clear c38
                obtain ⟨y144, hy144⟩ : ∃ y_ : List Bool, y_ = (x8_2 ++ [decide (x46_2 ≥ 50)]) := ⟨_, rfl⟩
                replace H : (if x9_2.length < 17592186044416 then (laws_FnPaceEnds.l0 k2 a1 a2 y144 (x9_2 ++ [(-1)]) (wrap64 (x46_2 + 1)) a0_0 a0_1 a0_2 a0_3 t138 t139 t140 t141) else (none)) = some r := by first | (rw [hy144]; with_reducible exact H) | (have H2_ := (Option.bind_some _ _).symm.trans H; rw [hy144]; with_reducible exact H2_) | (have H2_ := (Option.bind_some _ _).symm.trans H; with_reducible exact H2_) | with_reducible exact H | (rw [hy144]; exact H) | exact H
                have Ny144 := Aside0.mk hy144
                clear hy144
                by_cases c39 : x9_2.length < 17592186044416
                · rw [if_pos c39] at H
                  have LMc39 := Aside0.mk c39
                  clear c39
                  obtain ⟨y147, hy147⟩ : ∃ y_ : List Int, y_ = (x9_2 ++ [(-1)]) := ⟨_, rfl⟩
                  replace H : (laws_FnPaceEnds.l0 k2 a1 a2 y144 y147 (wrap64 (x46_2 + 1)) a0_0 a0_1 a0_2 a0_3 t138 t139 t140 t141) = some r := by first | (rw [hy147]; with_reducible exact H) | (have H2_ := (Option.bind_some _ _).symm.trans H; rw [hy147]; with_reducible exact H2_) | (have H2_ := (Option.bind_some _ _).symm.trans H; with_reducible exact H2_) | with_reducible exact H | (rw [hy147]; exact H) | exact H
                  have Ny147 := Aside0.mk hy147
                  clear hy147
                  have H' := Aside0.mk H
                  clear H
                  go_wp2_with (first | ((with_reducible refine gate_builtin (b := .append) (xs := #[.tmp 49, .tmp 52]) rfl ?_); at_builtin; refine Kd.R_append Kd.bool (w0 := w) w.heap.size rfl (.tmp 49) (.tmp 52) 33 4 (.bool false) 1 rfl Try.underlying33 info4 rfl (by decide) (by omega) u8 x8_2 (decide (x46_2 ≥ 50)) [.bool (decide (x46_2 ≥ 50))] (fun _ => True) (fun _ => False) rfl rfl ?aP (fun _ hk => hk.elim) ?aF ?aO ?aB ?aS ?aL ?_; (case aP => exact rfl); (case aB => exact (by repeat (first | (with_reducible first | exact HB.out | apply below_alloc | apply pw_below_drewN | apply below_drew1 | refine below_set ?_ GE137.out | refine below_set ?_ GE142.out) | exact HB.out))); (case aF => exact (fun _ _ => trivial)); (case aO => exact (by (with_reducible repeat (first | apply Kd.R_alloc | apply Kd.R_drewN | apply Kd.R_drew)); exact HO_8.out)); (case aS => exact (below_size (by repeat (first | (with_reducible first | exact HB.out | apply below_alloc | apply pw_below_drewN | apply below_drew1 | refine below_set ?_ GE137.out | refine below_set ?_ GE142.out) | exact HB.out)))); (case aL => have := LMc38.out; omega); intro v145 w40 ho hb hg hat; rw [← Ny144.out] at ho; have n0_ := Aside0.mk (Kd.R_over' (by (with_reducible repeat (first | apply Kd.R_alloc | apply Kd.R_drewN | apply Kd.R_drew)); exact HO_9.out) (Kd.R_typed (by (with_reducible repeat (first | apply Kd.R_alloc | apply Kd.R_drewN | apply Kd.R_drew)); exact HO_8.out)) (by decide) hg); have n1_ := Aside0.mk (blk_grown (g := gb137) (o := .cells #[.int .i64 a0_0, .int .i64 a0_1, .int .i64 a0_2, .int .i64 a0_3] 26 (0, 0)) (by (with_reducible repeat (first | refine blk_drewN ?_ _ | refine blk_drew ?_ | refine blk_alloc ?_ _)); exact BK137.out) hg (Kd.R_ne HO_8.out BK137.out (by decide))); have n2_ := Aside0.mk (blk_grown (g := gb142) (o := .cells #[.int .i64 t138, .int .i64 t139, .int .i64 t140, .int .i64 t141] 26 (0, 0)) (by (with_reducible repeat (first | refine blk_drewN ?_ _ | refine blk_drew ?_ | refine blk_alloc ?_ _)); exact BK142.out) hg (Kd.R_ne HO_8.out BK142.out (by decide))); have n3_ := Aside0.mk (hb); have n4_ := Aside0.mk (ho); clear HO_9; clear BK137; clear BK142; clear HB; clear HO_8; have HO_9 := n0_; have BK137 := n1_; have BK142 := n2_; have HB := n3_; have HO146 := n4_; clear n0_ n1_ n2_ n3_ n4_; clear ho hb hg hat) | ((with_reducible refine gate_builtin (b := .append) (xs := #[.tmp 54, .tmp 55]) rfl ?_); at_builtin; refine Kd.R_append (Kd.int .i64) (w0 := w) w.heap.size rfl (.tmp 54) (.tmp 55) 34 3 (.int .i64 0) 8 rfl Try.underlying34 info3 rfl (by decide) (by omega) u9 x9_2 (-1) [.int .i64 (-1)] (fun _ => True) (fun _ => False) rfl rfl ?aP (fun _ hk => hk.elim) ?aF ?aO ?aB ?aS ?aL ?_; (case aP => exact rfl); (case aB => exact (by repeat (first | (with_reducible first | exact HB.out | apply below_alloc | apply pw_below_drewN | apply below_drew1 | refine below_set ?_ GE137.out | refine below_set ?_ GE142.out) | exact HB.out))); (case aF => exact (fun _ _ => trivial)); (case aO => exact (by (with_reducible repeat (first | apply Kd.R_alloc | apply Kd.R_drewN | apply Kd.R_drew)); exact HO_9.out)); (case aS => exact (below_size (by repeat (first | (with_reducible first | exact HB.out | apply below_alloc | apply pw_below_drewN | apply below_drew1 | refine below_set ?_ GE137.out | refine below_set ?_ GE142.out) | exact HB.out)))); (case aL => have := LMc39.out; omega); intro v148 w41 ho hb hg hat; rw [← Ny147.out] at ho; have n0_ := Aside0.mk (blk_grown (g := gb137) (o := .cells #[.int .i64 a0_0, .int .i64 a0_1, .int .i64 a0_2, .int .i64 a0_3] 26 (0, 0)) (by (with_reducible repeat (first | refine blk_drewN ?_ _ | refine blk_drew ?_ | refine blk_alloc ?_ _)); exact BK137.out) hg (Kd.R_ne HO_9.out BK137.out (by decide))); have n1_ := Aside0.mk (blk_grown (g := gb142) (o := .cells #[.int .i64 t138, .int .i64 t139, .int .i64 t140, .int .i64 t141] 26 (0, 0)) (by (with_reducible repeat (first | refine blk_drewN ?_ _ | refine blk_drew ?_ | refine blk_alloc ?_ _)); exact BK142.out) hg (Kd.R_ne HO_9.out BK142.out (by decide))); have n2_ := Aside0.mk (Kd.R_over' (by (with_reducible repeat (first | apply Kd.R_alloc | apply Kd.R_drewN | apply Kd.R_drew)); exact HO146.out) (Kd.R_typed (by (with_reducible repeat (first | apply Kd.R_alloc | apply Kd.R_drewN | apply Kd.R_drew)); exact HO_9.out)) (by decide) hg); have n3_ := Aside0.mk (hb); have n4_ := Aside0.mk (ho); clear BK137; clear BK142; clear HO146; clear HB; clear HO_9; have BK137 := n0_; have BK142 := n1_; have HO146 := n2_; have HB := n3_; have HO149 := n4_; clear n0_ n1_ n2_ n3_ n4_; clear ho hb hg hat))
                  go_roundg k2
                  case measure => have := HJ4.out; have := HK2.out; omega
                  case rel => exact ⟨(y144), (y147), (wrap64 (x46_2 + 1)), (by first | rfl | (simp; done) | (simp [*]; done)), H', ⟨by have := HJ4.out; have := HK2.out; omega⟩, ⟨by (with_reducible repeat (first | apply Kd.R_alloc | apply Kd.R_drewN | apply Kd.R_drew)); exact HO146.out⟩, ⟨by (with_reducible repeat (first | apply Kd.R_alloc | apply Kd.R_drewN | apply Kd.R_drew)); exact HO149.out⟩, ⟨by (with_reducible repeat (first | refine blk_drewN ?_ _ | refine blk_drew ?_ | refine blk_alloc ?_ _)); exact BK137.out⟩, ⟨by (with_reducible repeat (first | refine blk_drewN ?_ _ | refine blk_drew ?_ | refine blk_alloc ?_ _)); exact BK142.out⟩, ⟨by repeat (first | (with_reducible first | exact HB.out | apply below_alloc | apply pw_below_drewN | apply below_drew1 | refine below_set ?_ GE137.out | refine below_set ?_ GE142.out) | exact HB.out)⟩⟩
                · rw [if_neg c39] at H
                  exact absurd H (by simp)
              · rw [if_neg c38] at H
                exact absurd H (by simp)
            · rw [if_neg c37] at H
              have c37b0 : decide (x46_2 < 220) = false := decide_eq_false c37
              clear c37
              replace H := Option.bind_eq_some_iff.mp H
              obtain ⟨⟨t150, t153⟩, A420, H⟩ := H
              replace H : (if t153 = true then ((laws_paceAwake.f).bind fun t154 => (laws_FnPaceEnds.j2 k2 a1 t150 (!t154) t138 t139 t140 t141)) else (laws_FnPaceEnds.j2 k2 a1 t150 true t138 t139 t140 t141)) = some r := H
              have A42 := Aside0.mk A420
              clear A420
              have HC43 := Aside0.mk H
              clear H
              have hnb44 := NB137_142.out
              have hnc44 := NB142_137.out
              have hcz45_0 : wr.cell? ⟨gb137, 0, none⟩ = some (.int .i64 a0_0) := (blk_cell BK137.out 0).trans rfl
              have hcz45_1 : wr.cell? ⟨gb137, 1, none⟩ = some (.int .i64 a0_1) := (blk_cell BK137.out 1).trans rfl
              have hcz45_2 : wr.cell? ⟨gb137, 2, none⟩ = some (.int .i64 a0_2) := (blk_cell BK137.out 2).trans rfl
              have hcz45_3 : wr.cell? ⟨gb137, 3, none⟩ = some (.int .i64 a0_3) := (blk_cell BK137.out 3).trans rfl
              have hfz45_0 := blk_frozen BK137.out 0
              have hfz45_1 := blk_frozen BK137.out 1
              have hfz45_2 := blk_frozen BK137.out 2
              have hfz45_3 := blk_frozen BK137.out 3
              obtain ⟨Ao46, co46, eo46⟩ := Kd.R_slice HO_8.out
              subst eo46
              obtain ⟨Ao47, co47, eo47⟩ := Kd.R_slice HO_9.out
              subst eo47
              go_upto_region 12 with (first | ((with_reducible refine gate_callee (f := 14) rfl ?_); refine goesL_ (some 64) rfl rfl Try.func14 (by kernel_rfl) rfl #[.agg #[.int .i64 a0_0, .int .i64 a0_1, .int .i64 a0_2, .int .i64 a0_3], .bool a1, .int .i64 a2, .slice Ao46 x8_2.length co46, .slice Ao47 x9_2.length co47] rfl (by (try simp only [List.map_toArray, List.map_cons, List.map_nil]); first | done | rfl | (simp only [List.length_drop, List.length_take]; rfl)) ?_; (with_reducible refine (laws_paceRun.calls a0_0 a0_1 a0_2 a0_3 a1 a2 _ _ x8_2 _ _ x9_2 t150 t153 _ ?side1 ?side2 ?side3 ?side4 A42.out).mono ?_); (case side1 => repeat (first | exact (Kd.R_reads' HO_8.out).2.2 | (with_reducible refine Kd.C_alloc ?_ _) | (with_reducible refine Kd.C_drewN ?_ _) | (with_reducible refine Kd.C_drew ?_))); (case side2 => exact (Kd.R_reads' HO_8.out).2.1); (case side3 => repeat (first | exact (Kd.R_reads' HO_9.out).2.2 | (with_reducible refine Kd.C_alloc ?_ _) | (with_reducible refine Kd.C_drewN ?_ _) | (with_reducible refine Kd.C_drew ?_))); (case side4 => exact (Kd.R_reads' HO_9.out).2.1); rintro e w48 ⟨v151, rfl, ho0, hb⟩; refine ⟨_, rfl, ?_⟩; have n0_ := Aside0.mk (Kd.R_below (by (with_reducible repeat (first | apply Kd.R_alloc | apply Kd.R_drewN | apply Kd.R_drew)); exact HO_8.out) hb); have n1_ := Aside0.mk (Kd.R_elder' (by (with_reducible repeat (first | apply Kd.R_alloc | apply Kd.R_drewN | apply Kd.R_drew)); exact HO_9.out) (Kd.R_base ho0) hb); have n2_ := Aside0.mk (Kd.R_lower (Kd.R_new' ho0 (Kd.R_lt (by (with_reducible repeat (first | apply Kd.R_alloc | apply Kd.R_drewN | apply Kd.R_drew)); exact HO_9.out))) (below_size (by repeat (first | (with_reducible first | exact HB.out | apply below_alloc | apply pw_below_drewN | apply below_drew1 | refine below_set ?_ GE137.out | refine below_set ?_ GE142.out) | exact HB.out)))); have n3_ := Aside0.mk (blk_below (g := gb137) (o := .cells #[.int .i64 a0_0, .int .i64 a0_1, .int .i64 a0_2, .int .i64 a0_3] 26 (0, 0)) (by (with_reducible repeat (first | refine blk_drewN ?_ _ | refine blk_drew ?_ | refine blk_alloc ?_ _)); exact BK137.out) hb); have n4_ := Aside0.mk (blk_below (g := gb142) (o := .cells #[.int .i64 t138, .int .i64 t139, .int .i64 t140, .int .i64 t141] 26 (0, 0)) (by (with_reducible repeat (first | refine blk_drewN ?_ _ | refine blk_drew ?_ | refine blk_alloc ?_ _)); exact BK142.out) hb); have n5_ := Aside0.mk (below_step (by repeat (first | (with_reducible first | exact HB.out | apply below_alloc | apply pw_below_drewN | apply below_drew1 | refine below_set ?_ GE137.out | refine below_set ?_ GE142.out) | exact HB.out)) hb); clear HO_8; clear HO_9; clear BK137; clear BK142; clear HB; have HO_8 := n0_; have HO_9 := n1_; have HO152 := n2_; have BK137 := n3_; have BK142 := n4_; have HB := n5_; clear n0_ n1_ n2_ n3_ n4_ n5_; (try clear hb); (try clear hb2); (try clear hk); (try clear hi); (try clear ho0)))
              (try simp only [Act.put, List.setIfInBounds_toArray, List.set_cons_zero, List.set_cons_succ])
              go_cut [72] (fun v72 wc => ∃ (kq : Nat) (x72_42 : Bool), v72 = .bool x72_42 ∧ Aside0 (laws_FnPaceEnds.j2 kq a1 t150 x72_42 t138 t139 t140 t141 = some r) ∧ Aside0 (kq ≤ k2) ∧ Aside0 (Kd.R (Kd.int .i64) 3 wc w.heap.size (fun _ => True) v151 t150) ∧ Aside0 (wc.heap[gb137]? = some (.cells #[.int .i64 a0_0, .int .i64 a0_1, .int .i64 a0_2, .int .i64 a0_3] 26 (0, 0))) ∧ Aside0 (wc.heap[gb142]? = some (.cells #[.int .i64 t138, .int .i64 t139, .int .i64 t140, .int .i64 t141] 26 (0, 0))) ∧ Aside0 (Below w.heap.size w wc))
              case first =>
                have H := HC43.out
                clear HC43
                by_cases c49 : t153 = true
                · subst c49
                  have H1 : ((laws_paceAwake.f).bind fun t154 => (laws_FnPaceEnds.j2 k2 a1 t150 (!t154) t138 t139 t140 t141)) = some r := by rw [if_pos rfl] at H; exact H
                  clear H
                  have H := H1
                  clear H1
                  replace H := Option.bind_eq_some_iff.mp H
                  obtain ⟨t154, A500, H⟩ := H
                  replace H : (laws_FnPaceEnds.j2 k2 a1 t150 (!t154) t138 t139 t140 t141) = some r := H
                  have A50 := Aside0.mk A500
                  clear A500
                  have H' := Aside0.mk H
                  clear H
                  go_wp2_with (first | (go_at_call 12; (with_reducible refine (laws_paceAwake.calls  t154 _ A50.out).mono ?_); rintro e w51 ⟨rfl, hb⟩; have n0_ := Aside0.mk (Kd.R_below (by (with_reducible repeat (first | apply Kd.R_alloc | apply Kd.R_drewN | apply Kd.R_drew)); exact HO_8.out) hb); have n1_ := Aside0.mk (Kd.R_below (by (with_reducible repeat (first | apply Kd.R_alloc | apply Kd.R_drewN | apply Kd.R_drew)); exact HO_9.out) hb); have n2_ := Aside0.mk (Kd.R_below (by (with_reducible repeat (first | apply Kd.R_alloc | apply Kd.R_drewN | apply Kd.R_drew)); exact HO152.out) hb); have n3_ := Aside0.mk (blk_below (g := gb137) (o := .cells #[.int .i64 a0_0, .int .i64 a0_1, .int .i64 a0_2, .int .i64 a0_3] 26 (0, 0)) (by (with_reducible repeat (first | refine blk_drewN ?_ _ | refine blk_drew ?_ | refine blk_alloc ?_ _)); exact BK137.out) hb); have n4_ := Aside0.mk (blk_below (g := gb142) (o := .cells #[.int .i64 t138, .int .i64 t139, .int .i64 t140, .int .i64 t141] 26 (0, 0)) (by (with_reducible repeat (first | refine blk_drewN ?_ _ | refine blk_drew ?_ | refine blk_alloc ?_ _)); exact BK142.out) hb); have n5_ := Aside0.mk (below_step (by repeat (first | (with_reducible first | exact HB.out | apply below_alloc | apply pw_below_drewN | apply below_drew1 | refine below_set ?_ GE137.out | refine below_set ?_ GE142.out) | exact HB.out)) hb); clear HO_8; clear HO_9; clear HO152; clear BK137; clear BK142; clear HB; have HO_8 := n0_; have HO_9 := n1_; have HO152 := n2_; have BK137 := n3_; have BK142 := n4_; have HB := n5_; clear n0_ n1_ n2_ n3_ n4_ n5_; (try clear hb); (try clear hb2); (try clear hk); (try clear hi)))
                  go_meet
                  case rel => exact ⟨_, (!t154), (by first | rfl | (simp; done) | (simp [*]; done)), H', ⟨by have := HJ4.out; have := HK2.out; first | omega | exact Nat.le_refl _⟩, ⟨by (with_reducible repeat (first | apply Kd.R_alloc | apply Kd.R_drewN | apply Kd.R_drew)); exact Kd.R_mono HO152.out (fun _ hk => trivial)⟩, ⟨by (with_reducible repeat (first | refine blk_drewN ?_ _ | refine blk_drew ?_ | refine blk_alloc ?_ _)); exact BK137.out⟩, ⟨by (with_reducible repeat (first | refine blk_drewN ?_ _ | refine blk_drew ?_ | refine blk_alloc ?_ _)); exact BK142.out⟩, ⟨by repeat (first | (with_reducible first | exact HB.out | apply below_alloc | apply pw_below_drewN | apply below_drew1 | refine below_set ?_ GE137.out | refine below_set ?_ GE142.out) | exact HB.out)⟩⟩
                · replace c49 := Bool.eq_false_iff.mpr c49
                  subst c49
                  have H1 : (laws_FnPaceEnds.j2 k2 a1 t150 true t138 t139 t140 t141) = some r := by rw [if_neg (show ¬ (false = true) by decide)] at H; exact H
                  clear H
                  have H := H1
                  clear H1
                  have H' := Aside0.mk H
                  clear H
                  go_wp2
                  go_meet
                  case rel => exact ⟨_, (true), (by first | rfl | (simp; done) | (simp [*]; done)), H', ⟨by have := HJ4.out; have := HK2.out; first | omega | exact Nat.le_refl _⟩, ⟨by (with_reducible repeat (first | apply Kd.R_alloc | apply Kd.R_drewN | apply Kd.R_drew)); exact Kd.R_mono HO152.out (fun _ hk => trivial)⟩, ⟨by (with_reducible repeat (first | refine blk_drewN ?_ _ | refine blk_drew ?_ | refine blk_alloc ?_ _)); exact BK137.out⟩, ⟨by (with_reducible repeat (first | refine blk_drewN ?_ _ | refine blk_drew ?_ | refine blk_alloc ?_ _)); exact BK142.out⟩, ⟨by repeat (first | (with_reducible first | exact HB.out | apply below_alloc | apply pw_below_drewN | apply below_drew1 | refine below_set ?_ GE137.out | refine below_set ?_ GE142.out) | exact HB.out)⟩⟩
              case rest =>
                clear HC43
                try clear c1
                try clear c2
                try clear p2
                try clear c3
                try clear c4
                try clear c5
                try clear p6
                try clear c7
                try clear c10
                try clear c13
                try clear c14
                try clear c15
                try clear c15b0
                try clear c16
                try clear c19
                try clear c19b0
                try clear c20
                try clear c24
                try clear c24b0
                try clear c25
                try clear c29
                try clear c33
                try clear c36
                try clear c37
                try clear c37b0
                try clear c38
                try clear c39
                try clear c44
                try clear c49
                try clear hcz11_0
                try clear hcz11_1
                try clear hcz11_2
                try clear hcz11_3
                try clear hcz17_0
                try clear hcz17_1
                try clear hcz17_2
                try clear hcz17_3
                try clear hcz21_0
                try clear hcz21_1
                try clear hcz21_2
                try clear hcz21_3
                try clear hcz23_0
                try clear hcz23_1
                try clear hcz23_2
                try clear hcz23_3
                try clear hcz26_0
                try clear hcz26_1
                try clear hcz26_2
                try clear hcz26_3
                try clear hcz28_0
                try clear hcz28_1
                try clear hcz28_2
                try clear hcz28_3
                try clear hcz30_0
                try clear hcz30_1
                try clear hcz30_2
                try clear hcz30_3
                try clear hcz32_0
                try clear hcz32_1
                try clear hcz32_2
                try clear hcz32_3
                try clear hcz34_0
                try clear hcz34_1
                try clear hcz34_2
                try clear hcz34_3
                try clear hcz45_0
                try clear hcz45_1
                try clear hcz45_2
                try clear hcz45_3
                try clear hcz7_0
                try clear hcz7_1
                try clear hcz7_2
                try clear hcz7_3
                try clear hfz11_0
                try clear hfz11_1
                try clear hfz11_2
                try clear hfz11_3
                try clear hfz17_0
                try clear hfz17_1
                try clear hfz17_2
                try clear hfz17_3
                try clear hfz21_0
                try clear hfz21_1
                try clear hfz21_2
                try clear hfz21_3
                try clear hfz23_0
                try clear hfz23_1
                try clear hfz23_2
                try clear hfz23_3
                try clear hfz26_0
                try clear hfz26_1
                try clear hfz26_2
                try clear hfz26_3
                try clear hfz28_0
                try clear hfz28_1
                try clear hfz28_2
                try clear hfz28_3
                try clear hfz30_0
                try clear hfz30_1
                try clear hfz30_2
                try clear hfz30_3
                try clear hfz32_0
                try clear hfz32_1
                try clear hfz32_2
                try clear hfz32_3
                try clear hfz34_0
                try clear hfz34_1
                try clear hfz34_2
                try clear hfz34_3
                try clear hfz45_0
                try clear hfz45_1
                try clear hfz45_2
                try clear hfz45_3
                try clear hfz7_0
                try clear hfz7_1
                try clear hfz7_2
                try clear hfz7_3
                try clear p2
                obtain ⟨kq, x72_42, rfl, HA, HJ42, HO_11, BK137, BK142, HB⟩ := hcut
                cases kq with
                | zero => exact absurd HA.out (by simp [laws_FnPaceEnds.j2])
                | succ kj42 =>
                  have H := HA.out
                  clear HA
                  simp only [laws_FnPaceEnds.j2] at H
                  by_cases c52 : x72_42 = true
                  · subst c52
                    have H1 : (some false) = some r := by rw [if_pos rfl] at H; exact H
                    clear H
                    have H := H1
                    clear H1
                    obtain rfl := Option.some.inj H
                    go_wp2
                    go_ret
                    exact ⟨by first | rfl | (simp [errW_none, errW_some] <;> rfl) | (simp [*, errW_none, errW_some] <;> rfl), by repeat (first | (with_reducible first | exact HB.out | apply below_alloc | apply pw_below_drewN | apply below_drew1 | refine below_set ?_ GE137.out | refine below_set ?_ GE142.out) | exact HB.out)⟩
                  · replace c52 := Bool.eq_false_iff.mpr c52
                    subst c52
                    have H1 : (if a1 = true then (laws_FnPaceEnds.j3 kj42 t150 0 t138 t139 t140 t141) else (laws_FnPaceEnds.j3 kj42 t150 t138 t138 t139 t140 t141)) = some r := by rw [if_neg (show ¬ (false = true) by decide)] at H; exact H
                    clear H
                    have H := H1
                    clear H1
                    have HC53 := Aside0.mk H
                    clear H
                    have hnb54 := NB142_137.out
                    have hnc54 := NB137_142.out
                    have hcz55_0 : wc.cell? ⟨gb142, 0, none⟩ = some (.int .i64 t138) := (blk_cell BK142.out 0).trans rfl
                    have hcz55_1 : wc.cell? ⟨gb142, 1, none⟩ = some (.int .i64 t139) := (blk_cell BK142.out 1).trans rfl
                    have hcz55_2 : wc.cell? ⟨gb142, 2, none⟩ = some (.int .i64 t140) := (blk_cell BK142.out 2).trans rfl
                    have hcz55_3 : wc.cell? ⟨gb142, 3, none⟩ = some (.int .i64 t141) := (blk_cell BK142.out 3).trans rfl
                    have hfz55_0 := blk_frozen BK142.out 0
                    have hfz55_1 := blk_frozen BK142.out 1
                    have hfz55_2 := blk_frozen BK142.out 2
                    have hfz55_3 := blk_frozen BK142.out 3
                    go_upto_if 75 with (fail)
                    go_cut [13] (fun v13 wc => ∃ (kq : Nat) (x13_52 : Int), v13 = .int .i64 x13_52 ∧ Aside0 (laws_FnPaceEnds.j3 kq t150 x13_52 t138 t139 t140 t141 = some r) ∧ Aside0 (kq ≤ kj42) ∧ Aside0 (Kd.R (Kd.int .i64) 3 wc w.heap.size (fun _ => True) v151 t150) ∧ Aside0 (wc.heap[gb137]? = some (.cells #[.int .i64 a0_0, .int .i64 a0_1, .int .i64 a0_2, .int .i64 a0_3] 26 (0, 0))) ∧ Aside0 (wc.heap[gb142]? = some (.cells #[.int .i64 t138, .int .i64 t139, .int .i64 t140, .int .i64 t141] 26 (0, 0))) ∧ Aside0 (Below w.heap.size w wc))
                    case first =>
                      have H := HC53.out
                      clear HC53
                      by_cases c56 : a1 = true
                      · subst c56
                        have H1 : (laws_FnPaceEnds.j3 kj42 t150 0 t138 t139 t140 t141) = some r := by rw [if_pos rfl] at H; exact H
                        clear H
                        have H := H1
                        clear H1
                        have H' := Aside0.mk H
                        clear H
                        go_wp2
                        go_meet
                        case rel => exact ⟨_, (0), (by first | rfl | (simp; done) | (simp [*]; done)), H', ⟨by have := HJ4.out; have := HK2.out; have := HJ42.out; first | omega | exact Nat.le_refl _⟩, ⟨by (with_reducible repeat (first | apply Kd.R_alloc | apply Kd.R_drewN | apply Kd.R_drew)); exact HO_11.out⟩, ⟨by (with_reducible repeat (first | refine blk_drewN ?_ _ | refine blk_drew ?_ | refine blk_alloc ?_ _)); exact BK137.out⟩, ⟨by (with_reducible repeat (first | refine blk_drewN ?_ _ | refine blk_drew ?_ | refine blk_alloc ?_ _)); exact BK142.out⟩, ⟨by repeat (first | (with_reducible first | exact HB.out | apply below_alloc | apply pw_below_drewN | apply below_drew1 | refine below_set ?_ GE137.out | refine below_set ?_ GE142.out) | exact HB.out)⟩⟩
                      · replace c56 := Bool.eq_false_iff.mpr c56
                        subst c56
                        have H1 : (laws_FnPaceEnds.j3 kj42 t150 t138 t138 t139 t140 t141) = some r := by rw [if_neg (show ¬ (false = true) by decide)] at H; exact H
                        clear H
                        have H := H1
                        clear H1
                        have H' := Aside0.mk H
                        clear H
                        go_wp2
                        go_meet
                        case rel => exact ⟨_, (t138), (by first | rfl | (simp; done) | (simp [*]; done)), H', ⟨by have := HJ4.out; have := HK2.out; have := HJ42.out; first | omega | exact Nat.le_refl _⟩, ⟨by (with_reducible repeat (first | apply Kd.R_alloc | apply Kd.R_drewN | apply Kd.R_drew)); exact HO_11.out⟩, ⟨by (with_reducible repeat (first | refine blk_drewN ?_ _ | refine blk_drew ?_ | refine blk_alloc ?_ _)); exact BK137.out⟩, ⟨by (with_reducible repeat (first | refine blk_drewN ?_ _ | refine blk_drew ?_ | refine blk_alloc ?_ _)); exact BK142.out⟩, ⟨by repeat (first | (with_reducible first | exact HB.out | apply below_alloc | apply pw_below_drewN | apply below_drew1 | refine below_set ?_ GE137.out | refine below_set ?_ GE142.out) | exact HB.out)⟩⟩
                    case rest =>
                      clear HC53
                      try clear c1
                      try clear c2
                      try clear p2
                      try clear c3
                      try clear c4
                      try clear c5
                      try clear p6
                      try clear c7
                      try clear c10
                      try clear c13
                      try clear c14
                      try clear c15
                      try clear c15b0
                      try clear c16
                      try clear c19
                      try clear c19b0
                      try clear c20
                      try clear c24
                      try clear c24b0
                      try clear c25
                      try clear c29
                      try clear c33
                      try clear c36
                      try clear c37
                      try clear c37b0
                      try clear c38
                      try clear c39
                      try clear c44
                      try clear c49
                      try clear c52
                      try clear c54
                      try clear c56
                      try clear hcz11_0
                      try clear hcz11_1
                      try clear hcz11_2
                      try clear hcz11_3
                      try clear hcz17_0
                      try clear hcz17_1
                      try clear hcz17_2
                      try clear hcz17_3
                      try clear hcz21_0
                      try clear hcz21_1
                      try clear hcz21_2
                      try clear hcz21_3
                      try clear hcz23_0
                      try clear hcz23_1
                      try clear hcz23_2
                      try clear hcz23_3
                      try clear hcz26_0
                      try clear hcz26_1
                      try clear hcz26_2
                      try clear hcz26_3
                      try clear hcz28_0
                      try clear hcz28_1
                      try clear hcz28_2
                      try clear hcz28_3
                      try clear hcz30_0
                      try clear hcz30_1
                      try clear hcz30_2
                      try clear hcz30_3
                      try clear hcz32_0
                      try clear hcz32_1
                      try clear hcz32_2
                      try clear hcz32_3
                      try clear hcz34_0
                      try clear hcz34_1
                      try clear hcz34_2
                      try clear hcz34_3
                      try clear hcz45_0
                      try clear hcz45_1
                      try clear hcz45_2
                      try clear hcz45_3
                      try clear hcz55_0
                      try clear hcz55_1
                      try clear hcz55_2
                      try clear hcz55_3
                      try clear hcz7_0
                      try clear hcz7_1
                      try clear hcz7_2
                      try clear hcz7_3
                      try clear hfz11_0
                      try clear hfz11_1
                      try clear hfz11_2
                      try clear hfz11_3
                      try clear hfz17_0
                      try clear hfz17_1
                      try clear hfz17_2
                      try clear hfz17_3
                      try clear hfz21_0
                      try clear hfz21_1
                      try clear hfz21_2
                      try clear hfz21_3
                      try clear hfz23_0
                      try clear hfz23_1
                      try clear hfz23_2
                      try clear hfz23_3
                      try clear hfz26_0
                      try clear hfz26_1
                      try clear hfz26_2
                      try clear hfz26_3
                      try clear hfz28_0
                      try clear hfz28_1
                      try clear hfz28_2
                      try clear hfz28_3
                      try clear hfz30_0
                      try clear hfz30_1
                      try clear hfz30_2
                      try clear hfz30_3
                      try clear hfz32_0
                      try clear hfz32_1
                      try clear hfz32_2
                      try clear hfz32_3
                      try clear hfz34_0
                      try clear hfz34_1
                      try clear hfz34_2
                      try clear hfz34_3
                      try clear hfz45_0
                      try clear hfz45_1
                      try clear hfz45_2
                      try clear hfz45_3
                      try clear hfz55_0
                      try clear hfz55_1
                      try clear hfz55_2
                      try clear hfz55_3
                      try clear hfz7_0
                      try clear hfz7_1
                      try clear hfz7_2
                      try clear hfz7_3
                      try clear p2
                      try clear p6
                      obtain ⟨kq, x13_52, rfl, HA, HJ52, HO_11, BK137, BK142, HB⟩ := hcut
                      cases kq with
                      | zero => exact absurd HA.out (by simp [laws_FnPaceEnds.j3])
                      | succ kj52 =>
                        have H := HA.out
                        clear HA
                        simp only [laws_FnPaceEnds.j3] at H
                        have H' := Aside0.mk H
                        clear H
                        obtain ⟨Ao57, co57, eo57⟩ := Kd.R_slice HO_11.out
                        subst eo57
                        go_wp2
                        go_loopg [78] kj52 (fun kq v78 w' => ∃ (x78_5 : Int), v78 = .int .i64 x78_5 ∧ Aside0 (laws_FnPaceEnds.l1 kq x13_52 t150 (t150.length : Int) x78_5 t138 t139 t140 t141 = some r) ∧ Aside0 (kq ≤ kj52) ∧ Aside0 (Kd.R (Kd.int .i64) 3 w' w.heap.size (fun _ => True) (.slice Ao57 t150.length co57) t150) ∧ Aside0 (w'.heap[gb137]? = some (.cells #[.int .i64 a0_0, .int .i64 a0_1, .int .i64 a0_2, .int .i64 a0_3] 26 (0, 0))) ∧ Aside0 (w'.heap[gb142]? = some (.cells #[.int .i64 t138, .int .i64 t139, .int .i64 t140, .int .i64 t141] 26 (0, 0))) ∧ Aside0 (Below w.heap.size w w'))
                        case atStart => exact ⟨(0), (by first | rfl | (simp; done) | (simp [*]; done)), H', ⟨Nat.le_refl _⟩, ⟨by (with_reducible repeat (first | apply Kd.R_alloc | apply Kd.R_drewN | apply Kd.R_drew)); exact HO_11.out⟩, ⟨by (with_reducible repeat (first | refine blk_drewN ?_ _ | refine blk_drew ?_ | refine blk_alloc ?_ _)); exact BK137.out⟩, ⟨by (with_reducible repeat (first | refine blk_drewN ?_ _ | refine blk_drew ?_ | refine blk_alloc ?_ _)); exact BK142.out⟩, ⟨by repeat (first | (with_reducible first | exact HB.out | apply below_alloc | apply pw_below_drewN | apply below_drew1 | refine below_set ?_ GE137.out | refine below_set ?_ GE142.out) | exact HB.out)⟩⟩
                        case round =>
                          clear H'
                          try clear c1
                          try clear c2
                          try clear p2
                          try clear c3
                          try clear c4
                          try clear c5
                          try clear p6
                          try clear c7
                          try clear c10
                          try clear c13
                          try clear c14
                          try clear c15
                          try clear c15b0
                          try clear c16
                          try clear c19
                          try clear c19b0
                          try clear c20
                          try clear c24
                          try clear c24b0
                          try clear c25
                          try clear c29
                          try clear c33
                          try clear c36
                          try clear c37
                          try clear c37b0
                          try clear c38
                          try clear c39
                          try clear c44
                          try clear c49
                          try clear c52
                          try clear c54
                          try clear c56
                          try clear hcz11_0
                          try clear hcz11_1
                          try clear hcz11_2
                          try clear hcz11_3
                          try clear hcz17_0
                          try clear hcz17_1
                          try clear hcz17_2
                          try clear hcz17_3
                          try clear hcz21_0
                          try clear hcz21_1
                          try clear hcz21_2
                          try clear hcz21_3
                          try clear hcz23_0
                          try clear hcz23_1
                          try clear hcz23_2
                          try clear hcz23_3
                          try clear hcz26_0
                          try clear hcz26_1
                          try clear hcz26_2
                          try clear hcz26_3
                          try clear hcz28_0
                          try clear hcz28_1
                          try clear hcz28_2
                          try clear hcz28_3
                          try clear hcz30_0
                          try clear hcz30_1
                          try clear hcz30_2
                          try clear hcz30_3
                          try clear hcz32_0
                          try clear hcz32_1
                          try clear hcz32_2
                          try clear hcz32_3
                          try clear hcz34_0
                          try clear hcz34_1
                          try clear hcz34_2
                          try clear hcz34_3
                          try clear hcz45_0
                          try clear hcz45_1
                          try clear hcz45_2
                          try clear hcz45_3
                          try clear hcz55_0
                          try clear hcz55_1
                          try clear hcz55_2
                          try clear hcz55_3
                          try clear hcz7_0
                          try clear hcz7_1
                          try clear hcz7_2
                          try clear hcz7_3
                          try clear hfz11_0
                          try clear hfz11_1
                          try clear hfz11_2
                          try clear hfz11_3
                          try clear hfz17_0
                          try clear hfz17_1
                          try clear hfz17_2
                          try clear hfz17_3
                          try clear hfz21_0
                          try clear hfz21_1
                          try clear hfz21_2
                          try clear hfz21_3
                          try clear hfz23_0
                          try clear hfz23_1
                          try clear hfz23_2
                          try clear hfz23_3
                          try clear hfz26_0
                          try clear hfz26_1
                          try clear hfz26_2
                          try clear hfz26_3
                          try clear hfz28_0
                          try clear hfz28_1
                          try clear hfz28_2
                          try clear hfz28_3
                          try clear hfz30_0
                          try clear hfz30_1
                          try clear hfz30_2
                          try clear hfz30_3
                          try clear hfz32_0
                          try clear hfz32_1
                          try clear hfz32_2
                          try clear hfz32_3
                          try clear hfz34_0
                          try clear hfz34_1
                          try clear hfz34_2
                          try clear hfz34_3
                          try clear hfz45_0
                          try clear hfz45_1
                          try clear hfz45_2
                          try clear hfz45_3
                          try clear hfz55_0
                          try clear hfz55_1
                          try clear hfz55_2
                          try clear hfz55_3
                          try clear hfz7_0
                          try clear hfz7_1
                          try clear hfz7_2
                          try clear hfz7_3
                          try clear p2
                          try clear p6
                          obtain ⟨x78_5, rfl, HA, HK5, HO_76, BK137, BK142, HB⟩ := hrel
                          cases gk with
                          | zero => exact absurd HA.out (by simp [laws_FnPaceEnds.l1])
                          | succ k5 =>
                            have H := HA.out
                            clear HA
                            simp only [laws_FnPaceEnds.l1] at H
                            by_cases c58 : x78_5 < (t150.length : Int)
                            · rw [if_pos c58] at H
                              have c58b0 : decide (x78_5 < (t150.length : Int)) = true := decide_eq_true c58
                              clear c58
                              by_cases c59 : 0 ≤ x78_5
                              · rw [if_pos c59] at H
                                have c59b0 : decide (0 ≤ x78_5) = true := decide_eq_true c59
                                clear c59
                                by_cases c60 : x78_5 < (t150.length : Int)
                                · rw [if_pos c60] at H
                                  have c60b0 : decide (x78_5 < (t150.length : Int)) = true := decide_eq_true c60
                                  clear c60
                                  by_cases c61 : x78_5 ≥ 45
                                  · rw [if_pos c61] at H
                                    have c61b0 : decide (45 ≤ x78_5) = true := decide_eq_true c61
                                    clear c61
                                    by_cases c62 : x78_5 < 50
                                    · rw [if_pos c62] at H
                                      have c62b0 : decide (x78_5 < 50) = true := decide_eq_true c62
                                      clear c62
                                      by_cases c63 : (rd t150 x78_5) = t139
                                      · rw [if_pos c63] at H
                                        have c63b0 : ((rd t150 x78_5) == t139) = true := beq_iff_eq.mpr c63
                                        have c63b1 : ((rd t150 x78_5) != t139) = false := bne_eq_false_iff_eq.mpr c63
                                        clear c63
                                        by_cases c64 : x78_5 ≥ 205
                                        · rw [if_pos c64] at H
                                          have c64b0 : decide (205 ≤ x78_5) = true := decide_eq_true c64
                                          clear c64
                                          by_cases c65 : (rd t150 x78_5) = x13_52
                                          · rw [if_pos c65] at H
                                            have c65b0 : ((rd t150 x78_5) == x13_52) = true := beq_iff_eq.mpr c65
                                            have c65b1 : ((rd t150 x78_5) != x13_52) = false := bne_eq_false_iff_eq.mpr c65
                                            clear c65
                                            have H' := Aside0.mk H
                                            clear H
                                            have p155 : 0 ≤ (x78_5 : Int) := of_decide_eq_true (by first | (with_reducible assumption) | assumption)
                                            have q155 : x78_5 < (t150.length : Int) := of_decide_eq_true (by first | (with_reducible assumption) | assumption)
                                            obtain ⟨ad155, e155, hx155_0⟩ := Kd.at_int (Kd.R_reads' HO_76.out).2.2 x78_5 p155 q155
                                            cases e155
                                            replace p155 := eq_true p155
                                            replace q155 := eq_true q155
                                            have hnb66 := NB142_137.out
                                            have hnc66 := NB137_142.out
                                            have hcz67_0 : wr.cell? ⟨gb142, 0, none⟩ = some (.int .i64 t138) := (blk_cell BK142.out 0).trans rfl
                                            have hcz67_1 : wr.cell? ⟨gb142, 1, none⟩ = some (.int .i64 t139) := (blk_cell BK142.out 1).trans rfl
                                            have hcz67_2 : wr.cell? ⟨gb142, 2, none⟩ = some (.int .i64 t140) := (blk_cell BK142.out 2).trans rfl
                                            have hcz67_3 : wr.cell? ⟨gb142, 3, none⟩ = some (.int .i64 t141) := (blk_cell BK142.out 3).trans rfl
                                            have hfz67_0 := blk_frozen BK142.out 0
                                            have hfz67_1 := blk_frozen BK142.out 1
                                            have hfz67_2 := blk_frozen BK142.out 2
                                            have hfz67_3 := blk_frozen BK142.out 3
                                            go_wp2
                                            go_roundg k5
                                            case measure => have := HJ4.out; have := HK2.out; have := HJ42.out; have := HJ52.out; have := HK5.out; omega
                                            case rel => exact ⟨(wrap64 (x78_5 + 1)), (by first | rfl | (simp; done) | (simp [*]; done)), H', ⟨by have := HJ4.out; have := HK2.out; have := HJ42.out; have := HJ52.out; have := HK5.out; omega⟩, ⟨by (with_reducible repeat (first | apply Kd.R_alloc | apply Kd.R_drewN | apply Kd.R_drew)); exact HO_76.out⟩, ⟨by (with_reducible repeat (first | refine blk_drewN ?_ _ | refine blk_drew ?_ | refine blk_alloc ?_ _)); exact BK137.out⟩, ⟨by (with_reducible repeat (first | refine blk_drewN ?_ _ | refine blk_drew ?_ | refine blk_alloc ?_ _)); exact BK142.out⟩, ⟨by repeat (first | (with_reducible first | exact HB.out | apply below_alloc | apply pw_below_drewN | apply below_drew1 | refine below_set ?_ GE137.out | refine below_set ?_ GE142.out) | exact HB.out)⟩⟩
                                          · rw [if_neg c65] at H
                                            have c65b0 : ((rd t150 x78_5) == x13_52) = false := beq_eq_false_iff_ne.mpr c65
                                            have c65b1 : ((rd t150 x78_5) != x13_52) = true := bne_iff_ne.mpr c65
                                            obtain rfl := Option.some.inj H
                                            have p155 : 0 ≤ (x78_5 : Int) := of_decide_eq_true (by first | (with_reducible assumption) | assumption)
                                            have q155 : x78_5 < (t150.length : Int) := of_decide_eq_true (by first | (with_reducible assumption) | assumption)
                                            obtain ⟨ad155, e155, hx155_0⟩ := Kd.at_int (Kd.R_reads' HO_76.out).2.2 x78_5 p155 q155
                                            cases e155
                                            replace p155 := eq_true p155
                                            replace q155 := eq_true q155
                                            have hnb68 := NB142_137.out
                                            have hnc68 := NB137_142.out
                                            have hcz69_0 : wr.cell? ⟨gb142, 0, none⟩ = some (.int .i64 t138) := (blk_cell BK142.out 0).trans rfl
                                            have hcz69_1 : wr.cell? ⟨gb142, 1, none⟩ = some (.int .i64 t139) := (blk_cell BK142.out 1).trans rfl
                                            have hcz69_2 : wr.cell? ⟨gb142, 2, none⟩ = some (.int .i64 t140) := (blk_cell BK142.out 2).trans rfl
                                            have hcz69_3 : wr.cell? ⟨gb142, 3, none⟩ = some (.int .i64 t141) := (blk_cell BK142.out 3).trans rfl
                                            have hfz69_0 := blk_frozen BK142.out 0
                                            have hfz69_1 := blk_frozen BK142.out 1
                                            have hfz69_2 := blk_frozen BK142.out 2
                                            have hfz69_3 := blk_frozen BK142.out 3
                                            go_wp2
                                            go_ret
                                            exact ⟨by first | rfl | (simp [errW_none, errW_some] <;> rfl) | (simp [*, errW_none, errW_some] <;> rfl), by repeat (first | (with_reducible first | exact HB.out | apply below_alloc | apply pw_below_drewN | apply below_drew1 | refine below_set ?_ GE137.out | refine below_set ?_ GE142.out) | exact HB.out)⟩
                                        · rw [if_neg c64] at H
                                          have c64b0 : decide (205 ≤ x78_5) = false := decide_eq_false c64
                                          clear c64
                                          have H' := Aside0.mk H
                                          clear H
                                          have p155 : 0 ≤ (x78_5 : Int) := of_decide_eq_true (by first | (with_reducible assumption) | assumption)
                                          have q155 : x78_5 < (t150.length : Int) := of_decide_eq_true (by first | (with_reducible assumption) | assumption)
                                          obtain ⟨ad155, e155, hx155_0⟩ := Kd.at_int (Kd.R_reads' HO_76.out).2.2 x78_5 p155 q155
                                          cases e155
                                          replace p155 := eq_true p155
                                          replace q155 := eq_true q155
                                          have hnb70 := NB142_137.out
                                          have hnc70 := NB137_142.out
                                          have hcz71_0 : wr.cell? ⟨gb142, 0, none⟩ = some (.int .i64 t138) := (blk_cell BK142.out 0).trans rfl
                                          have hcz71_1 : wr.cell? ⟨gb142, 1, none⟩ = some (.int .i64 t139) := (blk_cell BK142.out 1).trans rfl
                                          have hcz71_2 : wr.cell? ⟨gb142, 2, none⟩ = some (.int .i64 t140) := (blk_cell BK142.out 2).trans rfl
                                          have hcz71_3 : wr.cell? ⟨gb142, 3, none⟩ = some (.int .i64 t141) := (blk_cell BK142.out 3).trans rfl
                                          have hfz71_0 := blk_frozen BK142.out 0
                                          have hfz71_1 := blk_frozen BK142.out 1
                                          have hfz71_2 := blk_frozen BK142.out 2
                                          have hfz71_3 := blk_frozen BK142.out 3
                                          go_wp2
                                          go_roundg k5
                                          case measure => have := HJ4.out; have := HK2.out; have := HJ42.out; have := HJ52.out; have := HK5.out; omega
                                          case rel => exact ⟨(wrap64 (x78_5 + 1)), (by first | rfl | (simp; done) | (simp [*]; done)), H', ⟨by have := HJ4.out; have := HK2.out; have := HJ42.out; have := HJ52.out; have := HK5.out; omega⟩, ⟨by (with_reducible repeat (first | apply Kd.R_alloc | apply Kd.R_drewN | apply Kd.R_drew)); exact HO_76.out⟩, ⟨by (with_reducible repeat (first | refine blk_drewN ?_ _ | refine blk_drew ?_ | refine blk_alloc ?_ _)); exact BK137.out⟩, ⟨by (with_reducible repeat (first | refine blk_drewN ?_ _ | refine blk_drew ?_ | refine blk_alloc ?_ _)); exact BK142.out⟩, ⟨by repeat (first | (with_reducible first | exact HB.out | apply below_alloc | apply pw_below_drewN | apply below_drew1 | refine below_set ?_ GE137.out | refine below_set ?_ GE142.out) | exact HB.out)⟩⟩
                                      · rw [if_neg c63] at H
                                        have c63b0 : ((rd t150 x78_5) == t139) = false := beq_eq_false_iff_ne.mpr c63
                                        have c63b1 : ((rd t150 x78_5) != t139) = true := bne_iff_ne.mpr c63
                                        obtain rfl := Option.some.inj H
                                        have p155 : 0 ≤ (x78_5 : Int) := of_decide_eq_true (by first | (with_reducible assumption) | assumption)
                                        have q155 : x78_5 < (t150.length : Int) := of_decide_eq_true (by first | (with_reducible assumption) | assumption)
                                        obtain ⟨ad155, e155, hx155_0⟩ := Kd.at_int (Kd.R_reads' HO_76.out).2.2 x78_5 p155 q155
                                        cases e155
                                        replace p155 := eq_true p155
                                        replace q155 := eq_true q155
                                        have hnb72 := NB142_137.out
                                        have hnc72 := NB137_142.out
                                        have hcz73_0 : wr.cell? ⟨gb142, 0, none⟩ = some (.int .i64 t138) := (blk_cell BK142.out 0).trans rfl
                                        have hcz73_1 : wr.cell? ⟨gb142, 1, none⟩ = some (.int .i64 t139) := (blk_cell BK142.out 1).trans rfl
                                        have hcz73_2 : wr.cell? ⟨gb142, 2, none⟩ = some (.int .i64 t140) := (blk_cell BK142.out 2).trans rfl
                                        have hcz73_3 : wr.cell? ⟨gb142, 3, none⟩ = some (.int .i64 t141) := (blk_cell BK142.out 3).trans rfl
                                        have hfz73_0 := blk_frozen BK142.out 0
                                        have hfz73_1 := blk_frozen BK142.out 1
                                        have hfz73_2 := blk_frozen BK142.out 2
                                        have hfz73_3 := blk_frozen BK142.out 3
                                        go_wp2
                                        go_ret
                                        exact ⟨by first | rfl | (simp [errW_none, errW_some] <;> rfl) | (simp [*, errW_none, errW_some] <;> rfl), by repeat (first | (with_reducible first | exact HB.out | apply below_alloc | apply pw_below_drewN | apply below_drew1 | refine below_set ?_ GE137.out | refine below_set ?_ GE142.out) | exact HB.out)⟩
                                    · rw [if_neg c62] at H
                                      have c62b0 : decide (x78_5 < 50) = false := decide_eq_false c62
                                      clear c62
                                      by_cases c74 : x78_5 ≥ 205
                                      · rw [if_pos c74] at H
                                        have c74b0 : decide (205 ≤ x78_5) = true := decide_eq_true c74
                                        clear c74
                                        by_cases c75 : (rd t150 x78_5) = x13_52
                                        · rw [if_pos c75] at H
                                          have c75b0 : ((rd t150 x78_5) == x13_52) = true := beq_iff_eq.mpr c75
                                          have c75b1 : ((rd t150 x78_5) != x13_52) = false := bne_eq_false_iff_eq.mpr c75
                                          clear c75
                                          have H' := Aside0.mk H
                                          clear H
                                          have p155 : 0 ≤ (x78_5 : Int) := of_decide_eq_true (by first | (with_reducible assumption) | assumption)
                                          have q155 : x78_5 < (t150.length : Int) := of_decide_eq_true (by first | (with_reducible assumption) | assumption)
                                          obtain ⟨ad155, e155, hx155_0⟩ := Kd.at_int (Kd.R_reads' HO_76.out).2.2 x78_5 p155 q155
                                          cases e155
                                          replace p155 := eq_true p155
                                          replace q155 := eq_true q155
                                          go_wp2
                                          go_roundg k5
                                          case measure => have := HJ4.out; have := HK2.out; have := HJ42.out; have := HJ52.out; have := HK5.out; omega
                                          case rel => exact ⟨(wrap64 (x78_5 + 1)), (by first | rfl | (simp; done) | (simp [*]; done)), H', ⟨by have := HJ4.out; have := HK2.out; have := HJ42.out; have := HJ52.out; have := HK5.out; omega⟩, ⟨by (with_reducible repeat (first | apply Kd.R_alloc | apply Kd.R_drewN | apply Kd.R_drew)); exact HO_76.out⟩, ⟨by (with_reducible repeat (first | refine blk_drewN ?_ _ | refine blk_drew ?_ | refine blk_alloc ?_ _)); exact BK137.out⟩, ⟨by (with_reducible repeat (first | refine blk_drewN ?_ _ | refine blk_drew ?_ | refine blk_alloc ?_ _)); exact BK142.out⟩, ⟨by repeat (first | (with_reducible first | exact HB.out | apply below_alloc | apply pw_below_drewN | apply below_drew1 | refine below_set ?_ GE137.out | refine below_set ?_ GE142.out) | exact HB.out)⟩⟩
                                        · rw [if_neg c75] at H
                                          have c75b0 : ((rd t150 x78_5) == x13_52) = false := beq_eq_false_iff_ne.mpr c75
                                          have c75b1 : ((rd t150 x78_5) != x13_52) = true := bne_iff_ne.mpr c75
                                          obtain rfl := Option.some.inj H
                                          have p155 : 0 ≤ (x78_5 : Int) := of_decide_eq_true (by first | (with_reducible assumption) | assumption)
                                          have q155 : x78_5 < (t150.length : Int) := of_decide_eq_true (by first | (with_reducible assumption) | assumption)
                                          obtain ⟨ad155, e155, hx155_0⟩ := Kd.at_int (Kd.R_reads' HO_76.out).2.2 x78_5 p155 q155
                                          cases e155
                                          replace p155 := eq_true p155
                                          replace q155 := eq_true q155
                                          go_wp2
                                          go_ret
                                          exact ⟨by first | rfl | (simp [errW_none, errW_some] <;> rfl) | (simp [*, errW_none, errW_some] <;> rfl), by repeat (first | (with_reducible first | exact HB.out | apply below_alloc | apply pw_below_drewN | apply below_drew1 | refine below_set ?_ GE137.out | refine below_set ?_ GE142.out) | exact HB.out)⟩
                                      · rw [if_neg c74] at H
                                        have c74b0 : decide (205 ≤ x78_5) = false := decide_eq_false c74
                                        clear c74
                                        have H' := Aside0.mk H
                                        clear H
                                        have p155 : 0 ≤ (x78_5 : Int) := of_decide_eq_true (by first | (with_reducible assumption) | assumption)
                                        have q155 : x78_5 < (t150.length : Int) := of_decide_eq_true (by first | (with_reducible assumption) | assumption)
                                        obtain ⟨ad155, e155, hx155_0⟩ := Kd.at_int (Kd.R_reads' HO_76.out).2.2 x78_5 p155 q155
                                        cases e155
                                        replace p155 := eq_true p155
                                        replace q155 := eq_true q155
                                        go_wp2
                                        go_roundg k5
                                        case measure => have := HJ4.out; have := HK2.out; have := HJ42.out; have := HJ52.out; have := HK5.out; omega
                                        case rel => exact ⟨(wrap64 (x78_5 + 1)), (by first | rfl | (simp; done) | (simp [*]; done)), H', ⟨by have := HJ4.out; have := HK2.out; have := HJ42.out; have := HJ52.out; have := HK5.out; omega⟩, ⟨by (with_reducible repeat (first | apply Kd.R_alloc | apply Kd.R_drewN | apply Kd.R_drew)); exact HO_76.out⟩, ⟨by (with_reducible repeat (first | refine blk_drewN ?_ _ | refine blk_drew ?_ | refine blk_alloc ?_ _)); exact BK137.out⟩, ⟨by (with_reducible repeat (first | refine blk_drewN ?_ _ | refine blk_drew ?_ | refine blk_alloc ?_ _)); exact BK142.out⟩, ⟨by repeat (first | (with_reducible first | exact HB.out | apply below_alloc | apply pw_below_drewN | apply below_drew1 | refine below_set ?_ GE137.out | refine below_set ?_ GE142.out) | exact HB.out)⟩⟩
                                  · rw [if_neg c61] at H
                                    have c61b0 : decide (45 ≤ x78_5) = false := decide_eq_false c61
                                    clear c61
                                    by_cases c76 : x78_5 ≥ 205
                                    · rw [if_pos c76] at H
                                      have c76b0 : decide (205 ≤ x78_5) = true := decide_eq_true c76
                                      clear c76
                                      by_cases c77 : (rd t150 x78_5) = x13_52
                                      · rw [if_pos c77] at H
                                        have c77b0 : ((rd t150 x78_5) == x13_52) = true := beq_iff_eq.mpr c77
                                        have c77b1 : ((rd t150 x78_5) != x13_52) = false := bne_eq_false_iff_eq.mpr c77
                                        clear c77
                                        have H' := Aside0.mk H
                                        clear H
                                        have p155 : 0 ≤ (x78_5 : Int) := of_decide_eq_true (by first | (with_reducible assumption) | assumption)
                                        have q155 : x78_5 < (t150.length : Int) := of_decide_eq_true (by first | (with_reducible assumption) | assumption)
                                        obtain ⟨ad155, e155, hx155_0⟩ := Kd.at_int (Kd.R_reads' HO_76.out).2.2 x78_5 p155 q155
                                        cases e155
                                        replace p155 := eq_true p155
                                        replace q155 := eq_true q155
                                        go_wp2
                                        go_roundg k5
                                        case measure => have := HJ4.out; have := HK2.out; have := HJ42.out; have := HJ52.out; have := HK5.out; omega
                                        case rel => exact ⟨(wrap64 (x78_5 + 1)), (by first | rfl | (simp; done) | (simp [*]; done)), H', ⟨by have := HJ4.out; have := HK2.out; have := HJ42.out; have := HJ52.out; have := HK5.out; omega⟩, ⟨by (with_reducible repeat (first | apply Kd.R_alloc | apply Kd.R_drewN | apply Kd.R_drew)); exact HO_76.out⟩, ⟨by (with_reducible repeat (first | refine blk_drewN ?_ _ | refine blk_drew ?_ | refine blk_alloc ?_ _)); exact BK137.out⟩, ⟨by (with_reducible repeat (first | refine blk_drewN ?_ _ | refine blk_drew ?_ | refine blk_alloc ?_ _)); exact BK142.out⟩, ⟨by repeat (first | (with_reducible first | exact HB.out | apply below_alloc | apply pw_below_drewN | apply below_drew1 | refine below_set ?_ GE137.out | refine below_set ?_ GE142.out) | exact HB.out)⟩⟩
                                      · rw [if_neg c77] at H
                                        have c77b0 : ((rd t150 x78_5) == x13_52) = false := beq_eq_false_iff_ne.mpr c77
                                        have c77b1 : ((rd t150 x78_5) != x13_52) = true := bne_iff_ne.mpr c77
                                        obtain rfl := Option.some.inj H
                                        have p155 : 0 ≤ (x78_5 : Int) := of_decide_eq_true (by first | (with_reducible assumption) | assumption)
                                        have q155 : x78_5 < (t150.length : Int) := of_decide_eq_true (by first | (with_reducible assumption) | assumption)
                                        obtain ⟨ad155, e155, hx155_0⟩ := Kd.at_int (Kd.R_reads' HO_76.out).2.2 x78_5 p155 q155
                                        cases e155
                                        replace p155 := eq_true p155
                                        replace q155 := eq_true q155
                                        go_wp2
                                        go_ret
                                        exact ⟨by first | rfl | (simp [errW_none, errW_some] <;> rfl) | (simp [*, errW_none, errW_some] <;> rfl), by repeat (first | (with_reducible first | exact HB.out | apply below_alloc | apply pw_below_drewN | apply below_drew1 | refine below_set ?_ GE137.out | refine below_set ?_ GE142.out) | exact HB.out)⟩
                                    · rw [if_neg c76] at H
                                      have c76b0 : decide (205 ≤ x78_5) = false := decide_eq_false c76
                                      clear c76
                                      have H' := Aside0.mk H
                                      clear H
                                      have p155 : 0 ≤ (x78_5 : Int) := of_decide_eq_true (by first | (with_reducible assumption) | assumption)
                                      have q155 : x78_5 < (t150.length : Int) := of_decide_eq_true (by first | (with_reducible assumption) | assumption)
                                      obtain ⟨ad155, e155, hx155_0⟩ := Kd.at_int (Kd.R_reads' HO_76.out).2.2 x78_5 p155 q155
                                      cases e155
                                      replace p155 := eq_true p155
                                      replace q155 := eq_true q155
                                      go_wp2
                                      go_roundg k5
                                      case measure => have := HJ4.out; have := HK2.out; have := HJ42.out; have := HJ52.out; have := HK5.out; omega
                                      case rel => exact ⟨(wrap64 (x78_5 + 1)), (by first | rfl | (simp; done) | (simp [*]; done)), H', ⟨by have := HJ4.out; have := HK2.out; have := HJ42.out; have := HJ52.out; have := HK5.out; omega⟩, ⟨by (with_reducible repeat (first | apply Kd.R_alloc | apply Kd.R_drewN | apply Kd.R_drew)); exact HO_76.out⟩, ⟨by (with_reducible repeat (first | refine blk_drewN ?_ _ | refine blk_drew ?_ | refine blk_alloc ?_ _)); exact BK137.out⟩, ⟨by (with_reducible repeat (first | refine blk_drewN ?_ _ | refine blk_drew ?_ | refine blk_alloc ?_ _)); exact BK142.out⟩, ⟨by repeat (first | (with_reducible first | exact HB.out | apply below_alloc | apply pw_below_drewN | apply below_drew1 | refine below_set ?_ GE137.out | refine below_set ?_ GE142.out) | exact HB.out)⟩⟩
                                · rw [if_neg c60] at H
                                  exact absurd H (by simp)
                              · rw [if_neg c59] at H
                                exact absurd H (by simp)
                            · rw [if_neg c58] at H
                              have c58b0 : decide (x78_5 < (t150.length : Int)) = false := decide_eq_false c58
                              clear c58
                              obtain rfl := Option.some.inj H
                              go_wp2
                              go_ret
                              exact ⟨by first | rfl | (simp [errW_none, errW_some] <;> rfl) | (simp [*, errW_none, errW_some] <;> rfl), by repeat (first | (with_reducible first | exact HB.out | apply below_alloc | apply pw_below_drewN | apply below_drew1 | refine below_set ?_ GE137.out | refine below_set ?_ GE142.out) | exact HB.out)⟩
def laws_FnPaceEnds.Pure : Prop := ∀ (a0_0 : Int) (a0_1 : Int) (a0_2 : Int) (a0_3 : Int) (a1 : Bool) (a2 : Int), (((Lit.int .i64 a0_0).wf = true) ∧ (((Lit.int .i64 a0_1).wf = true) ∧ (((Lit.int .i64 a0_2).wf = true) ∧ ((Lit.int .i64 a0_3).wf = true)))) → (Lit.int .i64 a2).wf = true → ∃ k, laws_FnPaceEnds.f k a0_0 a0_1 a0_2 a0_3 a1 a2 = some true
theorem laws_FnPaceEnds.walk (P : laws_FnPaceEnds.Pure) (w : World) (a0_0 : Int) (a0_1 : Int) (a0_2 : Int) (a0_3 : Int) (a1 : Bool) (a2 : Int) (b0_0 : (((Lit.int .i64 a0_0).wf = true) ∧ (((Lit.int .i64 a0_1).wf = true) ∧ (((Lit.int .i64 a0_2).wf = true) ∧ ((Lit.int .i64 a0_3).wf = true))))) (b2_0 : (Lit.int .i64 a2).wf = true) :
    Calls Try.prog 5 #[.agg #[.int .i64 a0_0, .int .i64 a0_1, .int .i64 a0_2, .int .i64 a0_3], .bool a1, .int .i64 a2] w fun e w' => e = .returned (.bool true) ∧ Below w.heap.size w w' := by
  obtain ⟨k, h⟩ := P a0_0 a0_1 a0_2 a0_3 a1 a2 b0_0 b2_0
  refine (laws_FnPaceEnds.calls k a0_0 a0_1 a0_2 a0_3 a1 a2 true w    h).mono ?_
  rintro e w' ⟨rfl, hd⟩
  exact ⟨rfl, hd⟩

end Go.Proofs.Ytgdjplpbpknfmaa.PR
