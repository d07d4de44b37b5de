-- Written by a program of this session.
import Derived.Test.YtgdjplpbpknfmaaPRx0
import Derived.Test.YtgdjplpbpknfmaaPRx1
import Derived.Test.YtgdjplpbpknfmaaPRx2
namespace Go.Proofs.Ytgdjplpbpknfmaa.PR
open Go.RowKit Go.Proofs.YtgdjplpbpknfmaaW.PrintWords Go.Proofs.YtgdjplpbpknfmaaW.PrintLast Go.Proofs.YtgdjplpbpknfmaaW.PrintMore Go.Proofs.Ytgdjplpbpknfmaa.Given
attribute [local go_sem] max2_int min2_int max_two min_two max_three min_three max_four min_four   -- for this text's walks alone
set_option linter.unusedVariables false
set_option linter.unusedSimpArgs false

theorem at_w {G F : World → Prop} {W : World} (hF : F W) (h : ∀ W', F W' → G W') : G W := h W hF
/-! ### laws_FnPaceRuns: function 6 -/
mutual
def laws_FnPaceRuns.j0 : Nat → Bool → Int → List Bool → List Int → Bool → Int → Int → Int → Int → Option (Bool)
  | 0, _, _, _, _, _, _, _, _, _ => none
  | k + 1, x1, x2, x3, x4, x26, x123000, x123001, x123002, x123003 => if x26 = true then (some true) else (if (x3.length : Int) > 200 then (laws_FnPaceRuns.j1 k x1 x2 x3 x4 true x123000 x123001 x123002 x123003) else (laws_FnPaceRuns.j1 k x1 x2 x3 x4 ((x4.length : Int) != (x3.length : Int)) x123000 x123001 x123002 x123003))
def laws_FnPaceRuns.j1 : Nat → Bool → Int → List Bool → List Int → Bool → Int → Int → Int → Int → Option (Bool)
  | 0, _, _, _, _, _, _, _, _, _ => none
  | k + 1, x1, x2, x3, x4, x36, x123000, x123001, x123002, x123003 => if x36 = true then (some true) else (laws_FnPaceRuns.l0 k x1 x2 x3 x4 x4 (x4.length : Int) 0 x123000 x123001 x123002 x123003)
def laws_FnPaceRuns.l0 : Nat → Bool → Int → List Bool → List Int → List Int → Int → Int → Int → Int → Int → Int → Option (Bool)
  | 0, _, _, _, _, _, _, _, _, _, _, _ => none
  | k + 1, x1, x2, x3, x4, x37, x38, x39, x123000, x123001, x123002, x123003 => if x39 < x38 then (if 0 ≤ x39 then (if x39 < (x37.length : Int) then (if (rd x37 x39) ≥ 1099511627776 then (some true) else (laws_FnPaceRuns.l0 k x1 x2 x3 x4 x37 x38 (wrap64 (x39 + 1)) x123000 x123001 x123002 x123003)) else (none)) else (none)) else ((spec_PaceIn.f x123000 x123001 x123002 x123003 x2 0 0 0).bind fun t124 => (if t124 = true then ((laws_paceRun.f x123000 x123001 x123002 x123003 x1 x2 x3 x4).bind fun bt125 => (if bt125.2 = true then ((laws_paceAwake.f).bind fun t129 => (laws_FnPaceRuns.j3 k x1 x2 x3 x4 bt125.1 (!t129) x123000 x123001 x123002 x123003)) else (laws_FnPaceRuns.j3 k x1 x2 x3 x4 bt125.1 true x123000 x123001 x123002 x123003))) else (some true)))
def laws_FnPaceRuns.j3 : Nat → Bool → Int → List Bool → List Int → List Int → Bool → Int → Int → Int → Int → Option (Bool)
  | 0, _, _, _, _, _, _, _, _, _, _ => none
  | k + 1, x1, x2, x3, x4, x13, x65, x123000, x123001, x123002, x123003 => if x65 = true then (some false) else (laws_FnPaceRuns.l1 k x1 x2 x4 x13 0 x3 (x3.length : Int) 0 x123000 x123001 x123002 x123003)
def laws_FnPaceRuns.l1 : Nat → Bool → Int → List Int → List Int → Int → List Bool → Int → Int → Int → Int → Int → Int → Option (Bool)
  | 0, _, _, _, _, _, _, _, _, _, _, _, _ => none
  | k + 1, x1, x2, x4, x13, x15, x66, x67, x68, x123000, x123001, x123002, x123003 => if x68 < x67 then (if 0 ≤ x68 then (if x68 < (x66.length : Int) then (if rdOf false x66 x68 = true then ((spec_PaceNext.f k x123000 x123001 x123002 x123003 x1 x2 0 (-1) 0).bind fun t132 => (if x68 < (x13.length : Int) then (if (rd x13 x68) = t132 then (laws_FnPaceRuns.l1 k x1 t132 x4 x13 0 x66 x67 (wrap64 (x68 + 1)) x123000 x123001 x123002 x123003) else (some false)) else (none))) else (if x68 < (x4.length : Int) then ((spec_PaceNext.f k x123000 x123001 x123002 x123003 x1 x2 (wrap64 (x15 + 1)) (rd x4 x68) 0).bind fun t135 => (if x68 < (x13.length : Int) then (if (rd x13 x68) = t135 then (laws_FnPaceRuns.l1 k x1 t135 x4 x13 (wrap64 (x15 + 1)) x66 x67 (wrap64 (x68 + 1)) x123000 x123001 x123002 x123003) else (some false)) else (none))) else (none))) else (none)) else (none)) else (some true)
end
def laws_FnPaceRuns.f (k : Nat) (a0_0 : Int) (a0_1 : Int) (a0_2 : Int) (a0_3 : Int) (a1 : Bool) (a2 : Int) (l3 : List Bool) (l4 : List Int) : Option (Bool) := if (l3.length : Int) > 2147483647 then (laws_FnPaceRuns.j0 k a1 a2 l3 l4 true a0_0 a0_1 a0_2 a0_3) else (laws_FnPaceRuns.j0 k a1 a2 l3 l4 (decide ((l4.length : Int) > 2147483647)) a0_0 a0_1 a0_2 a0_3)
theorem laws_FnPaceRuns.mono_l : ∀ k, (∀ y0 y1 y2 y3 y4 y5 y6 y7 y8, LeO (laws_FnPaceRuns.j0 k y0 y1 y2 y3 y4 y5 y6 y7 y8) (laws_FnPaceRuns.j0 (k + 1) y0 y1 y2 y3 y4 y5 y6 y7 y8)) ∧ (∀ y0 y1 y2 y3 y4 y5 y6 y7 y8, LeO (laws_FnPaceRuns.j1 k y0 y1 y2 y3 y4 y5 y6 y7 y8) (laws_FnPaceRuns.j1 (k + 1) y0 y1 y2 y3 y4 y5 y6 y7 y8)) ∧ (∀ y0 y1 y2 y3 y4 y5 y6 y7 y8 y9 y10, LeO (laws_FnPaceRuns.l0 k y0 y1 y2 y3 y4 y5 y6 y7 y8 y9 y10) (laws_FnPaceRuns.l0 (k + 1) y0 y1 y2 y3 y4 y5 y6 y7 y8 y9 y10)) ∧ (∀ y0 y1 y2 y3 y4 y5 y6 y7 y8 y9, LeO (laws_FnPaceRuns.j3 k y0 y1 y2 y3 y4 y5 y6 y7 y8 y9) (laws_FnPaceRuns.j3 (k + 1) y0 y1 y2 y3 y4 y5 y6 y7 y8 y9)) ∧ (∀ y0 y1 y2 y3 y4 y5 y6 y7 y8 y9 y10 y11, LeO (laws_FnPaceRuns.l1 k y0 y1 y2 y3 y4 y5 y6 y7 y8 y9 y10 y11) (laws_FnPaceRuns.l1 (k + 1) y0 y1 y2 y3 y4 y5 y6 y7 y8 y9 y10 y11))
  | 0 => ⟨fun _ _ _ _ _ _ _ _ _ r h => by simp [laws_FnPaceRuns.j0] at h, fun _ _ _ _ _ _ _ _ _ r h => by simp [laws_FnPaceRuns.j1] at h, fun _ _ _ _ _ _ _ _ _ _ _ r h => by simp [laws_FnPaceRuns.l0] at h, fun _ _ _ _ _ _ _ _ _ _ r h => by simp [laws_FnPaceRuns.j3] at h, fun _ _ _ _ _ _ _ _ _ _ _ _ r h => by simp [laws_FnPaceRuns.l1] at h⟩
  | k + 1 => by
    obtain ⟨ih0, ih1, ih2, ih3, ih4⟩ := laws_FnPaceRuns.mono_l k
    refine ⟨?_, ?_, ?_, ?_, ?_⟩
    · intro y0 y1 y2 y3 y4 y5 y6 y7 y8
      unfold laws_FnPaceRuns.j0
      repeat' first
      | (with_reducible exact ih0 _ _ _ _ _ _ _ _ _)
      | (with_reducible exact ih1 _ _ _ _ _ _ _ _ _)
      | (with_reducible exact ih2 _ _ _ _ _ _ _ _ _ _ _)
      | (with_reducible exact ih3 _ _ _ _ _ _ _ _ _ _)
      | (with_reducible exact ih4 _ _ _ _ _ _ _ _ _ _ _ _)
      | (with_reducible exact spec_PaceNext.mono _ _ _ _ _ _ _ _ _ _)
      | (with_reducible exact LeO.refl _)
      | (with_reducible exact LeO.none _)
      | (with_reducible refine LeO.ite ?_ ?_)
      | (with_reducible refine LeO.bind ?_ (fun _ => ?_))
      | exact ih0 _ _ _ _ _ _ _ _ _
      | exact ih1 _ _ _ _ _ _ _ _ _
      | exact ih2 _ _ _ _ _ _ _ _ _ _ _
      | exact ih3 _ _ _ _ _ _ _ _ _ _
      | exact ih4 _ _ _ _ _ _ _ _ _ _ _ _
      | exact spec_PaceNext.mono _ _ _ _ _ _ _ _ _ _
      | exact LeO.none _
      | refine LeO.ite ?_ ?_
      | refine LeO.bind ?_ (fun _ => ?_)
    · intro y0 y1 y2 y3 y4 y5 y6 y7 y8
      unfold laws_FnPaceRuns.j1
      repeat' first
      | (with_reducible exact ih0 _ _ _ _ _ _ _ _ _)
      | (with_reducible exact ih1 _ _ _ _ _ _ _ _ _)
      | (with_reducible exact ih2 _ _ _ _ _ _ _ _ _ _ _)
      | (with_reducible exact ih3 _ _ _ _ _ _ _ _ _ _)
      | (with_reducible exact ih4 _ _ _ _ _ _ _ _ _ _ _ _)
      | (with_reducible exact spec_PaceNext.mono _ _ _ _ _ _ _ _ _ _)
      | (with_reducible exact LeO.refl _)
      | (with_reducible exact LeO.none _)
      | (with_reducible refine LeO.ite ?_ ?_)
      | (with_reducible refine LeO.bind ?_ (fun _ => ?_))
      | exact ih0 _ _ _ _ _ _ _ _ _
      | exact ih1 _ _ _ _ _ _ _ _ _
      | exact ih2 _ _ _ _ _ _ _ _ _ _ _
      | exact ih3 _ _ _ _ _ _ _ _ _ _
      | exact ih4 _ _ _ _ _ _ _ _ _ _ _ _
      | exact spec_PaceNext.mono _ _ _ _ _ _ _ _ _ _
      | exact LeO.none _
      | refine LeO.ite ?_ ?_
      | refine LeO.bind ?_ (fun _ => ?_)
    · intro y0 y1 y2 y3 y4 y5 y6 y7 y8 y9 y10
      unfold laws_FnPaceRuns.l0
      repeat' first
      | (with_reducible exact ih0 _ _ _ _ _ _ _ _ _)
      | (with_reducible exact ih1 _ _ _ _ _ _ _ _ _)
      | (with_reducible exact ih2 _ _ _ _ _ _ _ _ _ _ _)
      | (with_reducible exact ih3 _ _ _ _ _ _ _ _ _ _)
      | (with_reducible exact ih4 _ _ _ _ _ _ _ _ _ _ _ _)
      | (with_reducible exact spec_PaceNext.mono _ _ _ _ _ _ _ _ _ _)
      | (with_reducible exact LeO.refl _)
      | (with_reducible exact LeO.none _)
      | (with_reducible refine LeO.ite ?_ ?_)
      | (with_reducible refine LeO.bind ?_ (fun _ => ?_))
      | exact ih0 _ _ _ _ _ _ _ _ _
      | exact ih1 _ _ _ _ _ _ _ _ _
      | exact ih2 _ _ _ _ _ _ _ _ _ _ _
      | exact ih3 _ _ _ _ _ _ _ _ _ _
      | exact ih4 _ _ _ _ _ _ _ _ _ _ _ _
      | exact spec_PaceNext.mono _ _ _ _ _ _ _ _ _ _
      | exact LeO.none _
      | refine LeO.ite ?_ ?_
      | refine LeO.bind ?_ (fun _ => ?_)
    · intro y0 y1 y2 y3 y4 y5 y6 y7 y8 y9
      unfold laws_FnPaceRuns.j3
      repeat' first
      | (with_reducible exact ih0 _ _ _ _ _ _ _ _ _)
      | (with_reducible exact ih1 _ _ _ _ _ _ _ _ _)
      | (with_reducible exact ih2 _ _ _ _ _ _ _ _ _ _ _)
      | (with_reducible exact ih3 _ _ _ _ _ _ _ _ _ _)
      | (with_reducible exact ih4 _ _ _ _ _ _ _ _ _ _ _ _)
      | (with_reducible exact spec_PaceNext.mono _ _ _ _ _ _ _ _ _ _)
      | (with_reducible exact LeO.refl _)
      | (with_reducible exact LeO.none _)
      | (with_reducible refine LeO.ite ?_ ?_)
      | (with_reducible refine LeO.bind ?_ (fun _ => ?_))
      | exact ih0 _ _ _ _ _ _ _ _ _
      | exact ih1 _ _ _ _ _ _ _ _ _
      | exact ih2 _ _ _ _ _ _ _ _ _ _ _
      | exact ih3 _ _ _ _ _ _ _ _ _ _
      | exact ih4 _ _ _ _ _ _ _ _ _ _ _ _
      | exact spec_PaceNext.mono _ _ _ _ _ _ _ _ _ _
      | exact LeO.none _
      | refine LeO.ite ?_ ?_
      | refine LeO.bind ?_ (fun _ => ?_)
    · intro y0 y1 y2 y3 y4 y5 y6 y7 y8 y9 y10 y11
      unfold laws_FnPaceRuns.l1
      repeat' first
      | (with_reducible exact ih0 _ _ _ _ _ _ _ _ _)
      | (with_reducible exact ih1 _ _ _ _ _ _ _ _ _)
      | (with_reducible exact ih2 _ _ _ _ _ _ _ _ _ _ _)
      | (with_reducible exact ih3 _ _ _ _ _ _ _ _ _ _)
      | (with_reducible exact ih4 _ _ _ _ _ _ _ _ _ _ _ _)
      | (with_reducible exact spec_PaceNext.mono _ _ _ _ _ _ _ _ _ _)
      | (with_reducible exact LeO.refl _)
      | (with_reducible exact LeO.none _)
      | (with_reducible refine LeO.ite ?_ ?_)
      | (with_reducible refine LeO.bind ?_ (fun _ => ?_))
      | exact ih0 _ _ _ _ _ _ _ _ _
      | exact ih1 _ _ _ _ _ _ _ _ _
      | exact ih2 _ _ _ _ _ _ _ _ _ _ _
      | exact ih3 _ _ _ _ _ _ _ _ _ _
      | exact ih4 _ _ _ _ _ _ _ _ _ _ _ _
      | exact spec_PaceNext.mono _ _ _ _ _ _ _ _ _ _
      | exact LeO.none _
      | refine LeO.ite ?_ ?_
      | refine LeO.bind ?_ (fun _ => ?_)
theorem laws_FnPaceRuns.mono : ∀ a0 a1 a2 a3 a4 a5 a6 a7 k, LeO (laws_FnPaceRuns.f k a0 a1 a2 a3 a4 a5 a6 a7) (laws_FnPaceRuns.f (k + 1) a0 a1 a2 a3 a4 a5 a6 a7) := by
  intro a0 a1 a2 a3 a4 a5 a6 a7 k
  obtain ⟨ih0, ih1, ih2, ih3, ih4⟩ := laws_FnPaceRuns.mono_l k
  unfold laws_FnPaceRuns.f
  repeat' first
      | (with_reducible exact ih0 _ _ _ _ _ _ _ _ _)
      | (with_reducible exact ih1 _ _ _ _ _ _ _ _ _)
      | (with_reducible exact ih2 _ _ _ _ _ _ _ _ _ _ _)
      | (with_reducible exact ih3 _ _ _ _ _ _ _ _ _ _)
      | (with_reducible exact ih4 _ _ _ _ _ _ _ _ _ _ _ _)
      | (with_reducible exact spec_PaceNext.mono _ _ _ _ _ _ _ _ _ _)
      | (with_reducible exact LeO.refl _)
      | (with_reducible exact LeO.none _)
      | (with_reducible refine LeO.ite ?_ ?_)
      | (with_reducible refine LeO.bind ?_ (fun _ => ?_))
      | exact ih0 _ _ _ _ _ _ _ _ _
      | exact ih1 _ _ _ _ _ _ _ _ _
      | exact ih2 _ _ _ _ _ _ _ _ _ _ _
      | exact ih3 _ _ _ _ _ _ _ _ _ _
      | exact ih4 _ _ _ _ _ _ _ _ _ _ _ _
      | exact spec_PaceNext.mono _ _ _ _ _ _ _ _ _ _
      | exact LeO.none _
      | refine LeO.ite ?_ ?_
      | refine LeO.bind ?_ (fun _ => ?_)
set_option maxHeartbeats 8000000 in
set_option maxRecDepth 100000 in
theorem laws_FnPaceRuns.calls (k : Nat) (a0_0 : Int) (a0_1 : Int) (a0_2 : Int) (a0_3 : Int) (a1 : Bool) (a2 : Int) (A3 : Option Addr) (c3 : Nat) (l3 : List Bool) (A4 : Option Addr) (c4 : Nat) (l4 : List Int) (r : Bool) (w : World) (hr3 : Kd.C Kd.bool w A3 l3.length l3) (hc3 : l3.length ≤ c3) (hr4 : Kd.C (Kd.int .i64) w A4 l4.length l4) (hc4 : l4.length ≤ c4) (h : laws_FnPaceRuns.f k a0_0 a0_1 a0_2 a0_3 a1 a2 l3 l4 = some r) :
    Calls Try.prog 6 #[.agg #[.int .i64 a0_0, .int .i64 a0_1, .int .i64 a0_2, .int .i64 a0_3], .bool a1, .int .i64 a2, .slice A3 l3.length c3, .slice A4 l4.length c4] w fun e w' => e = .returned (.bool r) ∧ Below w.heap.size w w' := by
  have hu26 := Try.underlying26
  have hu23 := Try.underlying23
  have HR3 := Aside0.mk hr3
  have HC3 := Aside0.mk hc3
  clear hr3 hc3
  have HR4 := Aside0.mk hr4
  have HC4 := Aside0.mk hc4
  clear hr4 hc4
  have HB := Aside0.mk (Below.refl w.heap.size w)
  have H : (if (l3.length : Int) > 2147483647 then (laws_FnPaceRuns.j0 k a1 a2 l3 l4 true a0_0 a0_1 a0_2 a0_3) else (laws_FnPaceRuns.j0 k a1 a2 l3 l4 (decide ((l4.length : Int) > 2147483647)) a0_0 a0_1 a0_2 a0_3)) = some r := h
  clear h
  have HC6 := Aside0.mk H
  clear H
  go_enter Try.func6, Try.ntmps6
  go_upto_region 1 with (first | ((with_reducible refine gate_dst (N := 5) rfl ?_); (try (refine gate_guard (by rfl) ?_; dsimp only)); refine box_event ?hg (N := 5) ?hd (cs := #[.int .i64 a0_0, .int .i64 a0_1, .int .i64 a0_2, .int .i64 a0_3]) (t := 26) ?hr ?_; (case hd => rfl); (case hg => rfl); (case hr => first | (go_simp; done) | (go_simp; rfl)); intro gb122 hg w7 hbox hb; have n0_ := Aside0.mk (below_step (by repeat (first | (with_reducible first | exact HB.out | apply below_alloc | apply pw_below_drewN | apply below_drew1) | exact HB.out)) hb); have n1_ := Aside0.mk (hbox); have n2_ := Aside0.mk ((by rw [hg]; exact (below_size (by repeat (first | (with_reducible first | exact HB.out | apply below_alloc | apply pw_below_drewN | apply below_drew1) | exact HB.out))) : w.heap.size ≤ gb122)); have n3_ := Aside0.mk ((by rw [hg]; exact (below_size (by repeat (first | (with_reducible first | exact HB.out | apply below_alloc | apply pw_below_drewN | apply below_drew1) | exact HB.out))) : w.heap.size ≤ gb122)); clear HB; have HB := n0_; have BK122 := n1_; have GW122 := n2_; have GE122 := n3_; clear n0_ n1_ n2_ n3_; clear hb hbox hg))
  (try simp only [Act.put, List.setIfInBounds_toArray, List.set_cons_zero, List.set_cons_succ])
  go_cut [26] (fun v26 wc => ∃ (kq : Nat) (x26_5 : Bool), v26 = .bool x26_5 ∧ Aside0 (laws_FnPaceRuns.j0 kq a1 a2 l3 l4 x26_5 a0_0 a0_1 a0_2 a0_3 = some r) ∧ Aside0 (kq ≤ k) ∧ Aside0 (wc.heap[gb122]? = some (.cells #[.int .i64 a0_0, .int .i64 a0_1, .int .i64 a0_2, .int .i64 a0_3] 26 (0, 0))) ∧ Aside0 (Below w.heap.size w wc))
  case first =>
    have H := HC6.out
    clear HC6
    by_cases c8 : (l3.length : Int) > 2147483647
    · rw [if_pos c8] at H
      have c8b0 : decide (2147483647 < (l3.length : Int)) = true := decide_eq_true c8
      have c8b1 : decide (2147483647 < l3.length) = true := decide_eq_true (by omega)
      clear c8
      (first | rw [c8b0] | (simp only [i64_w, i32_w]; rw [c8b0]) | skip)
      have H' := Aside0.mk H
      clear H
      go_wp2
      go_meet
      case rel => exact ⟨_, (true), (by first | rfl | (simp; done) | (simp [*]; done)), H', ⟨by first | omega | exact Nat.le_refl _⟩, ⟨by (with_reducible repeat (first | refine blk_drewN ?_ _ | refine blk_drew ?_ | refine blk_alloc ?_ _)); exact BK122.out⟩, ⟨by repeat (first | (with_reducible first | exact HB.out | apply below_alloc | apply pw_below_drewN | apply below_drew1 | refine below_set ?_ GE122.out) | exact HB.out)⟩⟩
    · rw [if_neg c8] at H
      have c8b0 : decide (2147483647 < (l3.length : Int)) = false := decide_eq_false c8
      have c8b1 : decide (2147483647 < l3.length) = false := decide_eq_false (by omega)
      clear c8
      (first | rw [c8b0] | (simp only [i64_w, i32_w]; rw [c8b0]) | skip)
      have H' := Aside0.mk H
      clear H
      go_wp2
      go_meet
      case rel => exact ⟨_, (decide ((l4.length : Int) > 2147483647)), (by first | rfl | (simp; done) | (simp [*]; done)), H', ⟨by first | omega | exact Nat.le_refl _⟩, ⟨by (with_reducible repeat (first | refine blk_drewN ?_ _ | refine blk_drew ?_ | refine blk_alloc ?_ _)); exact BK122.out⟩, ⟨by repeat (first | (with_reducible first | exact HB.out | apply below_alloc | apply pw_below_drewN | apply below_drew1 | refine below_set ?_ GE122.out) | exact HB.out)⟩⟩
  case rest =>
    clear HC6
    try clear p2
    try clear c3
    try clear c4
    try clear c6
    try clear c8
    try clear c8b0
    try clear c8b1
    obtain ⟨kq, x26_5, rfl, HA, HJ5, BK122, HB⟩ := hcut
    cases kq with
    | zero => exact absurd HA.out (by simp [laws_FnPaceRuns.j0])
    | succ kj5 =>
      have H := HA.out
      clear HA
      simp only [laws_FnPaceRuns.j0] at H
      by_cases c9 : x26_5 = true
      · subst c9
        have H1 : (some true) = some r := by rw [if_pos rfl] at H; exact H
        clear H
        have H := H1
        clear H1
        obtain rfl := Option.some.inj H
        go_wp2
        go_ret
        exact ⟨by first | rfl | (simp [errW_none, errW_some] <;> rfl) | (simp [*, errW_none, errW_some] <;> rfl), by repeat (first | (with_reducible first | exact HB.out | apply below_alloc | apply pw_below_drewN | apply below_drew1 | refine below_set ?_ GE122.out) | exact HB.out)⟩
      · replace c9 := Bool.eq_false_iff.mpr c9
        subst c9
        have H1 : (if (l3.length : Int) > 200 then (laws_FnPaceRuns.j1 kj5 a1 a2 l3 l4 true a0_0 a0_1 a0_2 a0_3) else (laws_FnPaceRuns.j1 kj5 a1 a2 l3 l4 ((l4.length : Int) != (l3.length : Int)) a0_0 a0_1 a0_2 a0_3)) = some r := by rw [if_neg (show ¬ (false = true) by decide)] at H; exact H
        clear H
        have H := H1
        clear H1
        have HC10 := Aside0.mk H
        clear H
        go_upto_region 3 with (fail)
        go_cut [36] (fun v36 wc => ∃ (kq : Nat) (x36_9 : Bool), v36 = .bool x36_9 ∧ Aside0 (laws_FnPaceRuns.j1 kq a1 a2 l3 l4 x36_9 a0_0 a0_1 a0_2 a0_3 = some r) ∧ Aside0 (kq ≤ kj5) ∧ Aside0 (wc.heap[gb122]? = some (.cells #[.int .i64 a0_0, .int .i64 a0_1, .int .i64 a0_2, .int .i64 a0_3] 26 (0, 0))) ∧ Aside0 (Below w.heap.size w wc))
        case first =>
          have H := HC10.out
          clear HC10
          by_cases c11 : (l3.length : Int) > 200
          · rw [if_pos c11] at H
            have c11b0 : decide (200 < (l3.length : Int)) = true := decide_eq_true c11
            have c11b1 : decide (200 < l3.length) = true := decide_eq_true (by omega)
            clear c11
            (first | rw [c11b0] | (simp only [i64_w, i32_w]; rw [c11b0]) | skip)
            have H' := Aside0.mk H
            clear H
            go_wp2
            go_meet
            case rel => exact ⟨_, (true), (by first | rfl | (simp; done) | (simp [*]; done)), H', ⟨by have := HJ5.out; first | omega | exact Nat.le_refl _⟩, ⟨by (with_reducible repeat (first | refine blk_drewN ?_ _ | refine blk_drew ?_ | refine blk_alloc ?_ _)); exact BK122.out⟩, ⟨by repeat (first | (with_reducible first | exact HB.out | apply below_alloc | apply pw_below_drewN | apply below_drew1 | refine below_set ?_ GE122.out) | exact HB.out)⟩⟩
          · rw [if_neg c11] at H
            have c11b0 : decide (200 < (l3.length : Int)) = false := decide_eq_false c11
            have c11b1 : decide (200 < l3.length) = false := decide_eq_false (by omega)
            clear c11
            (first | rw [c11b0] | (simp only [i64_w, i32_w]; rw [c11b0]) | skip)
            have H' := Aside0.mk H
            clear H
            go_wp2
            go_meet
            case rel => exact ⟨_, (((l4.length : Int) != (l3.length : Int))), (by first | rfl | (simp; done) | (simp [*]; done)), H', ⟨by have := HJ5.out; first | omega | exact Nat.le_refl _⟩, ⟨by (with_reducible repeat (first | refine blk_drewN ?_ _ | refine blk_drew ?_ | refine blk_alloc ?_ _)); exact BK122.out⟩, ⟨by repeat (first | (with_reducible first | exact HB.out | apply below_alloc | apply pw_below_drewN | apply below_drew1 | refine below_set ?_ GE122.out) | exact HB.out)⟩⟩
        case rest =>
          clear HC10
          try clear c1
          try clear p2
          try clear c3
          try clear c4
          try clear c6
          try clear c8
          try clear c8b0
          try clear c8b1
          try clear c9
          try clear c11
          try clear c11b0
          try clear c11b1
          try clear p2
          obtain ⟨kq, x36_9, rfl, HA, HJ9, BK122, HB⟩ := hcut
          cases kq with
          | zero => exact absurd HA.out (by simp [laws_FnPaceRuns.j1])
          | succ kj9 =>
            have H := HA.out
            clear HA
            simp only [laws_FnPaceRuns.j1] at H
            by_cases c12 : x36_9 = true
            · subst c12
              have H1 : (some true) = some r := by rw [if_pos rfl] at H; exact H
              clear H
              have H := H1
              clear H1
              obtain rfl := Option.some.inj H
              go_wp2
              go_ret
              exact ⟨by first | rfl | (simp [errW_none, errW_some] <;> rfl) | (simp [*, errW_none, errW_some] <;> rfl), by repeat (first | (with_reducible first | exact HB.out | apply below_alloc | apply pw_below_drewN | apply below_drew1 | refine below_set ?_ GE122.out) | exact HB.out)⟩
            · replace c12 := Bool.eq_false_iff.mpr c12
              subst c12
              have H1 : (laws_FnPaceRuns.l0 kj9 a1 a2 l3 l4 l4 (l4.length : Int) 0 a0_0 a0_1 a0_2 a0_3) = some r := by rw [if_neg (show ¬ (false = true) by decide)] at H; exact H
              clear H
              have H := H1
              clear H1
              have H' := Aside0.mk H
              clear H
              go_wp2
              go_loopg [39] kj9 (fun kq v39 w' => ∃ (x39_3 : Int), v39 = .int .i64 x39_3 ∧ Aside0 (laws_FnPaceRuns.l0 kq a1 a2 l3 l4 l4 (l4.length : Int) x39_3 a0_0 a0_1 a0_2 a0_3 = some r) ∧ Aside0 (kq ≤ kj9) ∧ Aside0 (w'.heap[gb122]? = some (.cells #[.int .i64 a0_0, .int .i64 a0_1, .int .i64 a0_2, .int .i64 a0_3] 26 (0, 0))) ∧ Aside0 (Below w.heap.size w w'))
              case atStart => exact ⟨(0), (by first | rfl | (simp; done) | (simp [*]; done)), H', ⟨Nat.le_refl _⟩, ⟨by (with_reducible repeat (first | refine blk_drewN ?_ _ | refine blk_drew ?_ | refine blk_alloc ?_ _)); exact BK122.out⟩, ⟨by repeat (first | (with_reducible first | exact HB.out | apply below_alloc | apply pw_below_drewN | apply below_drew1 | refine below_set ?_ GE122.out) | exact HB.out)⟩⟩
              case round =>
                clear H'
                try clear c1
                try clear p2
                try clear c3
                try clear c4
                try clear c6
                try clear c8
                try clear c8b0
                try clear c8b1
                try clear c9
                try clear c11
                try clear c11b0
                try clear c11b1
                try clear c12
                try clear p2
                obtain ⟨x39_3, rfl, HA, HK3, BK122, HB⟩ := hrel
                cases gk with
                | zero => exact absurd HA.out (by simp [laws_FnPaceRuns.l0])
                | succ k3 =>
                  have H := HA.out
                  clear HA
                  simp only [laws_FnPaceRuns.l0] at H
                  by_cases c13 : x39_3 < (l4.length : Int)
                  · rw [if_pos c13] at H
                    have c13b0 : decide (x39_3 < (l4.length : Int)) = true := decide_eq_true c13
                    clear c13
                    by_cases c14 : 0 ≤ x39_3
                    · rw [if_pos c14] at H
                      have c14b0 : decide (0 ≤ x39_3) = true := decide_eq_true c14
                      clear c14
                      by_cases c15 : x39_3 < (l4.length : Int)
                      · rw [if_pos c15] at H
                        have c15b0 : decide (x39_3 < (l4.length : Int)) = true := decide_eq_true c15
                        clear c15
                        by_cases c16 : (rd l4 x39_3) ≥ 1099511627776
                        · rw [if_pos c16] at H
                          have c16b0 : decide (1099511627776 ≤ (rd l4 x39_3)) = true := decide_eq_true c16
                          clear c16
                          obtain rfl := Option.some.inj H
                          have p123 : 0 ≤ (x39_3 : Int) := of_decide_eq_true (by first | (with_reducible assumption) | assumption)
                          have q123 : x39_3 < (l4.length : Int) := of_decide_eq_true (by first | (with_reducible assumption) | assumption)
                          obtain ⟨ad123, e123, hx123_0⟩ := Kd.at_int HR4.out x39_3 p123 q123
                          cases e123
                          replace hx123_0 := (HB.out.cell (World.block_lt_of_cell? w _ hx123_0)).trans hx123_0
                          replace p123 := eq_true p123
                          replace q123 := eq_true q123
                          go_wp2
                          go_ret
                          exact ⟨by first | rfl | (simp [errW_none, errW_some] <;> rfl) | (simp [*, errW_none, errW_some] <;> rfl), by repeat (first | (with_reducible first | exact HB.out | apply below_alloc | apply pw_below_drewN | apply below_drew1 | refine below_set ?_ GE122.out) | exact HB.out)⟩
                        · rw [if_neg c16] at H
                          have c16b0 : decide (1099511627776 ≤ (rd l4 x39_3)) = false := decide_eq_false c16
                          clear c16
                          have H' := Aside0.mk H
                          clear H
                          have p123 : 0 ≤ (x39_3 : Int) := of_decide_eq_true (by first | (with_reducible assumption) | assumption)
                          have q123 : x39_3 < (l4.length : Int) := of_decide_eq_true (by first | (with_reducible assumption) | assumption)
                          obtain ⟨ad123, e123, hx123_0⟩ := Kd.at_int HR4.out x39_3 p123 q123
                          cases e123
                          replace hx123_0 := (HB.out.cell (World.block_lt_of_cell? w _ hx123_0)).trans hx123_0
                          replace p123 := eq_true p123
                          replace q123 := eq_true q123
                          go_wp2
                          go_roundg k3
                          case measure => have := HJ5.out; have := HJ9.out; have := HK3.out; omega
                          case rel => exact ⟨(wrap64 (x39_3 + 1)), (by first | rfl | (simp; done) | (simp [*]; done)), H', ⟨by have := HJ5.out; have := HJ9.out; have := HK3.out; omega⟩, ⟨by (with_reducible repeat (first | refine blk_drewN ?_ _ | refine blk_drew ?_ | refine blk_alloc ?_ _)); exact BK122.out⟩, ⟨by repeat (first | (with_reducible first | exact HB.out | apply below_alloc | apply pw_below_drewN | apply below_drew1 | refine below_set ?_ GE122.out) | exact HB.out)⟩⟩
                      · rw [if_neg c15] at H
                        exact absurd H (by simp)
                    · rw [if_neg c14] at H
                      exact absurd H (by simp)
                  · rw [if_neg c13] at H
                    have c13b0 : decide (x39_3 < (l4.length : Int)) = false := decide_eq_false c13
                    clear c13
                    replace H := Option.bind_eq_some_iff.mp H
                    obtain ⟨t124, A170, H⟩ := H
                    replace H : (if t124 = true then ((laws_paceRun.f a0_0 a0_1 a0_2 a0_3 a1 a2 l3 l4).bind fun bt125 => (if bt125.2 = true then ((laws_paceAwake.f).bind fun t129 => (laws_FnPaceRuns.j3 k3 a1 a2 l3 l4 bt125.1 (!t129) a0_0 a0_1 a0_2 a0_3)) else (laws_FnPaceRuns.j3 k3 a1 a2 l3 l4 bt125.1 true a0_0 a0_1 a0_2 a0_3))) else (some true)) = some r := H
                    have A17 := Aside0.mk A170
                    clear A170
                    by_cases c18 : t124 = true
                    · subst c18
                      have H1 : ((laws_paceRun.f a0_0 a0_1 a0_2 a0_3 a1 a2 l3 l4).bind fun bt125 => (if bt125.2 = true then ((laws_paceAwake.f).bind fun t129 => (laws_FnPaceRuns.j3 k3 a1 a2 l3 l4 bt125.1 (!t129) a0_0 a0_1 a0_2 a0_3)) else (laws_FnPaceRuns.j3 k3 a1 a2 l3 l4 bt125.1 true a0_0 a0_1 a0_2 a0_3))) = some r := by rw [if_pos rfl] at H; exact H
                      clear H
                      have H := H1
                      clear H1
                      replace H := Option.bind_eq_some_iff.mp H
                      obtain ⟨⟨t125, t128⟩, A190, H⟩ := H
                      replace H : (if t128 = true then ((laws_paceAwake.f).bind fun t129 => (laws_FnPaceRuns.j3 k3 a1 a2 l3 l4 t125 (!t129) a0_0 a0_1 a0_2 a0_3)) else (laws_FnPaceRuns.j3 k3 a1 a2 l3 l4 t125 true a0_0 a0_1 a0_2 a0_3)) = some r := H
                      have A19 := Aside0.mk A190
                      clear A190
                      have HC20 := Aside0.mk H
                      clear H
                      have hcz21_0 : wr.cell? ⟨gb122, 0, none⟩ = some (.int .i64 a0_0) := (blk_cell BK122.out 0).trans rfl
                      have hcz21_1 : wr.cell? ⟨gb122, 1, none⟩ = some (.int .i64 a0_1) := (blk_cell BK122.out 1).trans rfl
                      have hcz21_2 : wr.cell? ⟨gb122, 2, none⟩ = some (.int .i64 a0_2) := (blk_cell BK122.out 2).trans rfl
                      have hcz21_3 : wr.cell? ⟨gb122, 3, none⟩ = some (.int .i64 a0_3) := (blk_cell BK122.out 3).trans rfl
                      have hfz21_0 := blk_frozen BK122.out 0
                      have hfz21_1 := blk_frozen BK122.out 1
                      have hfz21_2 := blk_frozen BK122.out 2
                      have hfz21_3 := blk_frozen BK122.out 3
                      go_upto_region 14 with (first | ((with_reducible refine gate_callee (f := 7) rfl ?_); refine goesL_ (some 49) rfl rfl Try.func7 (by kernel_rfl) rfl #[.agg #[.int .i64 a0_0, .int .i64 a0_1, .int .i64 a0_2, .int .i64 a0_3], .agg #[.int .i64 a2, .int .i64 0, .int .i64 0, .int .i64 0]] rfl (by (try simp only [List.map_toArray, List.map_cons, List.map_nil]); first | done | rfl | (simp only [List.length_drop, List.length_take]; rfl)) ?_; (with_reducible refine (spec_PaceIn.calls a0_0 a0_1 a0_2 a0_3 a2 0 0 0 true _ A17.out).mono ?_); rintro e w22 ⟨rfl, hb⟩; refine ⟨_, rfl, ?_⟩; have n0_ := Aside0.mk (blk_below (g := gb122) (o := .cells #[.int .i64 a0_0, .int .i64 a0_1, .int .i64 a0_2, .int .i64 a0_3] 26 (0, 0)) (by (with_reducible repeat (first | refine blk_drewN ?_ _ | refine blk_drew ?_ | refine blk_alloc ?_ _)); exact BK122.out) hb); have n1_ := Aside0.mk (below_step (by repeat (first | (with_reducible first | exact HB.out | apply below_alloc | apply pw_below_drewN | apply below_drew1 | refine below_set ?_ GE122.out) | exact HB.out)) hb); clear BK122; clear HB; have BK122 := n0_; have HB := n1_; clear n0_ n1_; (try clear hb); (try clear hb2); (try clear hk); (try clear hi); have hcz23_0 : w22.cell? ⟨gb122, 0, none⟩ = some (.int .i64 a0_0) := (blk_cell BK122.out 0).trans rfl; have hcz23_1 : w22.cell? ⟨gb122, 1, none⟩ = some (.int .i64 a0_1) := (blk_cell BK122.out 1).trans rfl; have hcz23_2 : w22.cell? ⟨gb122, 2, none⟩ = some (.int .i64 a0_2) := (blk_cell BK122.out 2).trans rfl; have hcz23_3 : w22.cell? ⟨gb122, 3, none⟩ = some (.int .i64 a0_3) := (blk_cell BK122.out 3).trans rfl; have hfz23_0 := blk_frozen BK122.out 0; have hfz23_1 := blk_frozen BK122.out 1; have hfz23_2 := blk_frozen BK122.out 2; have hfz23_3 := blk_frozen BK122.out 3) | ((with_reducible refine gate_callee (f := 14) rfl ?_); refine goesL_ (some 57) rfl rfl Try.func14 (by kernel_rfl) rfl #[.agg #[.int .i64 a0_0, .int .i64 a0_1, .int .i64 a0_2, .int .i64 a0_3], .bool a1, .int .i64 a2, .slice A3 l3.length c3, .slice A4 l4.length c4] rfl (by (try simp only [List.map_toArray, List.map_cons, List.map_nil]); first | done | rfl | (simp only [List.length_drop, List.length_take]; rfl)) ?_; (with_reducible refine (laws_paceRun.calls a0_0 a0_1 a0_2 a0_3 a1 a2 _ _ l3 _ _ l4 t125 t128 _ ?side1 ?side2 ?side3 ?side4 A19.out).mono ?_); (case side1 => repeat (first | exact (Kd.C_below HR3.out HB.out) | (with_reducible refine Kd.C_alloc ?_ _) | (with_reducible refine Kd.C_drewN ?_ _) | (with_reducible refine Kd.C_drew ?_))); (case side2 => exact HC3.out); (case side3 => repeat (first | exact (Kd.C_below HR4.out HB.out) | (with_reducible refine Kd.C_alloc ?_ _) | (with_reducible refine Kd.C_drewN ?_ _) | (with_reducible refine Kd.C_drew ?_))); (case side4 => exact HC4.out); rintro e w24 ⟨v126, rfl, ho0, hb⟩; refine ⟨_, rfl, ?_⟩; have n0_ := Aside0.mk (Kd.R_lower ho0 (below_size (by repeat (first | (with_reducible first | exact HB.out | apply below_alloc | apply pw_below_drewN | apply below_drew1 | refine below_set ?_ GE122.out) | exact HB.out)))); have n1_ := Aside0.mk (blk_below (g := gb122) (o := .cells #[.int .i64 a0_0, .int .i64 a0_1, .int .i64 a0_2, .int .i64 a0_3] 26 (0, 0)) (by (with_reducible repeat (first | refine blk_drewN ?_ _ | refine blk_drew ?_ | refine blk_alloc ?_ _)); exact BK122.out) hb); have n2_ := Aside0.mk (below_step (by repeat (first | (with_reducible first | exact HB.out | apply below_alloc | apply pw_below_drewN | apply below_drew1 | refine below_set ?_ GE122.out) | exact HB.out)) hb); clear BK122; clear HB; have HO127 := n0_; have BK122 := n1_; have HB := n2_; clear n0_ n1_ n2_; (try clear hb); (try clear hb2); (try clear hk); (try clear hi); (try clear ho0)))
                      (try simp only [Act.put, List.setIfInBounds_toArray, List.set_cons_zero, List.set_cons_succ])
                      go_cut [65] (fun v65 wc => ∃ (kq : Nat) (x65_19 : Bool), v65 = .bool x65_19 ∧ Aside0 (laws_FnPaceRuns.j3 kq a1 a2 l3 l4 t125 x65_19 a0_0 a0_1 a0_2 a0_3 = some r) ∧ Aside0 (kq ≤ k3) ∧ Aside0 (Kd.R (Kd.int .i64) 3 wc w.heap.size (fun _ => True) v126 t125) ∧ Aside0 (wc.heap[gb122]? = some (.cells #[.int .i64 a0_0, .int .i64 a0_1, .int .i64 a0_2, .int .i64 a0_3] 26 (0, 0))) ∧ Aside0 (Below w.heap.size w wc))
                      case first =>
                        have H := HC20.out
                        clear HC20
                        by_cases c25 : t128 = true
                        · subst c25
                          have H1 : ((laws_paceAwake.f).bind fun t129 => (laws_FnPaceRuns.j3 k3 a1 a2 l3 l4 t125 (!t129) a0_0 a0_1 a0_2 a0_3)) = some r := by rw [if_pos rfl] at H; exact H
                          clear H
                          have H := H1
                          clear H1
                          replace H := Option.bind_eq_some_iff.mp H
                          obtain ⟨t129, A260, H⟩ := H
                          replace H : (laws_FnPaceRuns.j3 k3 a1 a2 l3 l4 t125 (!t129) a0_0 a0_1 a0_2 a0_3) = some r := H
                          have A26 := Aside0.mk A260
                          clear A260
                          have H' := Aside0.mk H
                          clear H
                          go_wp2_with (first | (go_at_call 12; (with_reducible refine (laws_paceAwake.calls  t129 _ A26.out).mono ?_); rintro e w27 ⟨rfl, hb⟩; have n0_ := Aside0.mk (Kd.R_below (by (with_reducible repeat (first | apply Kd.R_alloc | apply Kd.R_drewN | apply Kd.R_drew)); exact HO127.out) hb); have n1_ := Aside0.mk (blk_below (g := gb122) (o := .cells #[.int .i64 a0_0, .int .i64 a0_1, .int .i64 a0_2, .int .i64 a0_3] 26 (0, 0)) (by (with_reducible repeat (first | refine blk_drewN ?_ _ | refine blk_drew ?_ | refine blk_alloc ?_ _)); exact BK122.out) hb); have n2_ := Aside0.mk (below_step (by repeat (first | (with_reducible first | exact HB.out | apply below_alloc | apply pw_below_drewN | apply below_drew1 | refine below_set ?_ GE122.out) | exact HB.out)) hb); clear HO127; clear BK122; clear HB; have HO127 := n0_; have BK122 := n1_; have HB := n2_; clear n0_ n1_ n2_; (try clear hb); (try clear hb2); (try clear hk); (try clear hi)))
                          go_meet
                          case rel => exact ⟨_, (!t129), (by first | rfl | (simp; done) | (simp [*]; done)), H', ⟨by have := HJ5.out; have := HJ9.out; have := HK3.out; first | omega | exact Nat.le_refl _⟩, ⟨by (with_reducible repeat (first | apply Kd.R_alloc | apply Kd.R_drewN | apply Kd.R_drew)); exact HO127.out⟩, ⟨by (with_reducible repeat (first | refine blk_drewN ?_ _ | refine blk_drew ?_ | refine blk_alloc ?_ _)); exact BK122.out⟩, ⟨by repeat (first | (with_reducible first | exact HB.out | apply below_alloc | apply pw_below_drewN | apply below_drew1 | refine below_set ?_ GE122.out) | exact HB.out)⟩⟩
                        · replace c25 := Bool.eq_false_iff.mpr c25
                          subst c25
                          have H1 : (laws_FnPaceRuns.j3 k3 a1 a2 l3 l4 t125 true a0_0 a0_1 a0_2 a0_3) = some r := by rw [if_neg (show ¬ (false = true) by decide)] at H; exact H
                          clear H
                          have H := H1
                          clear H1
                          have H' := Aside0.mk H
                          clear H
                          go_wp2
                          go_meet
                          case rel => exact ⟨_, (true), (by first | rfl | (simp; done) | (simp [*]; done)), H', ⟨by have := HJ5.out; have := HJ9.out; have := HK3.out; first | omega | exact Nat.le_refl _⟩, ⟨by (with_reducible repeat (first | apply Kd.R_alloc | apply Kd.R_drewN | apply Kd.R_drew)); exact HO127.out⟩, ⟨by (with_reducible repeat (first | refine blk_drewN ?_ _ | refine blk_drew ?_ | refine blk_alloc ?_ _)); exact BK122.out⟩, ⟨by repeat (first | (with_reducible first | exact HB.out | apply below_alloc | apply pw_below_drewN | apply below_drew1 | refine below_set ?_ GE122.out) | exact HB.out)⟩⟩
                      case rest =>
                        clear HC20
                        try clear c1
                        try clear p1
                        try clear q1
                        try clear hx1
                        try clear c2
                        try clear p2
                        try clear c3
                        try clear c4
                        try clear c6
                        try clear p6
                        try clear c7
                        try clear c8
                        try clear c8b0
                        try clear c8b1
                        try clear c9
                        try clear c11
                        try clear c11b0
                        try clear c11b1
                        try clear c12
                        try clear p12
                        try clear q12
                        try clear hx12
                        try clear c13
                        try clear c13b0
                        try clear c14
                        try clear c14b0
                        try clear c15
                        try clear c15b0
                        try clear c16
                        try clear c16b0
                        try clear c18
                        try clear c25
                        try clear hcz21_0
                        try clear hcz21_1
                        try clear hcz21_2
                        try clear hcz21_3
                        try clear hcz23_0
                        try clear hcz23_1
                        try clear hcz23_2
                        try clear hcz23_3
                        try clear hfz21_0
                        try clear hfz21_1
                        try clear hfz21_2
                        try clear hfz21_3
                        try clear hfz23_0
                        try clear hfz23_1
                        try clear hfz23_2
                        try clear hfz23_3
                        try clear hx123_0
                        try clear p123
                        try clear p2
                        try clear q123
                        obtain ⟨kq, x65_19, rfl, HA, HJ19, HO_13, BK122, HB⟩ := hcut
                        cases kq with
                        | zero => exact absurd HA.out (by simp [laws_FnPaceRuns.j3])
                        | succ kj19 =>
                          have H := HA.out
                          clear HA
                          simp only [laws_FnPaceRuns.j3] at H
                          by_cases c28 : x65_19 = true
                          · subst c28
                            have H1 : (some false) = some r := by rw [if_pos rfl] at H; exact H
                            clear H
                            have H := H1
                            clear H1
                            obtain rfl := Option.some.inj H
                            go_wp2
                            go_ret
                            exact ⟨by first | rfl | (simp [errW_none, errW_some] <;> rfl) | (simp [*, errW_none, errW_some] <;> rfl), by repeat (first | (with_reducible first | exact HB.out | apply below_alloc | apply pw_below_drewN | apply below_drew1 | refine below_set ?_ GE122.out) | exact HB.out)⟩
                          · replace c28 := Bool.eq_false_iff.mpr c28
                            subst c28
                            have H1 : (laws_FnPaceRuns.l1 kj19 a1 a2 l4 t125 0 l3 (l3.length : Int) 0 a0_0 a0_1 a0_2 a0_3) = some r := by rw [if_neg (show ¬ (false = true) by decide)] at H; exact H
                            clear H
                            have H := H1
                            clear H1
                            have H' := Aside0.mk H
                            clear H
                            go_wp2
                            go_loopg [2, 15, 68] kj19 (fun kq v2 v15 v68 w' => ∃ (x2_5 : Int) (x15_5 : Int) (x68_5 : Int), v2 = .int .i64 x2_5 ∧ v15 = .int .i64 x15_5 ∧ v68 = .int .i64 x68_5 ∧ Aside0 (laws_FnPaceRuns.l1 kq a1 x2_5 l4 t125 x15_5 l3 (l3.length : Int) x68_5 a0_0 a0_1 a0_2 a0_3 = some r) ∧ Aside0 (kq ≤ kj19) ∧ Aside0 (Kd.R (Kd.int .i64) 3 w' w.heap.size (fun _ => True) v126 t125) ∧ Aside0 (w'.heap[gb122]? = some (.cells #[.int .i64 a0_0, .int .i64 a0_1, .int .i64 a0_2, .int .i64 a0_3] 26 (0, 0))) ∧ Aside0 (Below w.heap.size w w'))
                            case atStart => exact ⟨(a2), (0), (0), (by first | rfl | (simp; done) | (simp [*]; done)), (by first | rfl | (simp; done) | (simp [*]; done)), (by first | rfl | (simp; done) | (simp [*]; done)), H', ⟨Nat.le_refl _⟩, ⟨by (with_reducible repeat (first | apply Kd.R_alloc | apply Kd.R_drewN | apply Kd.R_drew)); exact HO_13.out⟩, ⟨by (with_reducible repeat (first | refine blk_drewN ?_ _ | refine blk_drew ?_ | refine blk_alloc ?_ _)); exact BK122.out⟩, ⟨by repeat (first | (with_reducible first | exact HB.out | apply below_alloc | apply pw_below_drewN | apply below_drew1 | refine below_set ?_ GE122.out) | exact HB.out)⟩⟩
                            case round =>
                              clear H'
                              try clear c1
                              try clear p1
                              try clear q1
                              try clear hx1
                              try clear c2
                              try clear p2
                              try clear c3
                              try clear c4
                              try clear c6
                              try clear p6
                              try clear c7
                              try clear c8
                              try clear c8b0
                              try clear c8b1
                              try clear c9
                              try clear c11
                              try clear c11b0
                              try clear c11b1
                              try clear c12
                              try clear p12
                              try clear q12
                              try clear hx12
                              try clear c13
                              try clear c13b0
                              try clear c14
                              try clear c14b0
                              try clear c15
                              try clear c15b0
                              try clear c16
                              try clear c16b0
                              try clear c18
                              try clear c25
                              try clear c28
                              try clear hcz21_0
                              try clear hcz21_1
                              try clear hcz21_2
                              try clear hcz21_3
                              try clear hcz23_0
                              try clear hcz23_1
                              try clear hcz23_2
                              try clear hcz23_3
                              try clear hfz21_0
                              try clear hfz21_1
                              try clear hfz21_2
                              try clear hfz21_3
                              try clear hfz23_0
                              try clear hfz23_1
                              try clear hfz23_2
                              try clear hfz23_3
                              try clear hx123_0
                              try clear p1
                              try clear p12
                              try clear p123
                              try clear p2
                              try clear p6
                              try clear q1
                              try clear q12
                              try clear q123
                              obtain ⟨x2_5, x15_5, x68_5, rfl, rfl, rfl, HA, HK5, HO_13, BK122, HB⟩ := hrel
                              cases gk with
                              | zero => exact absurd HA.out (by simp [laws_FnPaceRuns.l1])
                              | succ k5 =>
                                have H := HA.out
                                clear HA
                                simp only [laws_FnPaceRuns.l1] at H
                                by_cases c29 : x68_5 < (l3.length : Int)
                                · rw [if_pos c29] at H
                                  have c29b0 : decide (x68_5 < (l3.length : Int)) = true := decide_eq_true c29
                                  clear c29
                                  by_cases c30 : 0 ≤ x68_5
                                  · rw [if_pos c30] at H
                                    have c30b0 : decide (0 ≤ x68_5) = true := decide_eq_true c30
                                    clear c30
                                    by_cases c31 : x68_5 < (l3.length : Int)
                                    · rw [if_pos c31] at H
                                      have c31b0 : decide (x68_5 < (l3.length : Int)) = true := decide_eq_true c31
                                      clear c31
                                      obtain ⟨bq32, hbq32⟩ : ∃ b_ : Bool, b_ = (rdOf false l3 x68_5) := ⟨_, rfl⟩
                                      replace H : (if bq32 = true then ((spec_PaceNext.f k5 a0_0 a0_1 a0_2 a0_3 a1 x2_5 0 (-1) 0).bind fun t132 => (if x68_5 < (t125.length : Int) then (if (rd t125 x68_5) = t132 then (laws_FnPaceRuns.l1 k5 a1 t132 l4 t125 0 l3 (l3.length : Int) (wrap64 (x68_5 + 1)) a0_0 a0_1 a0_2 a0_3) else (some false)) else (none))) else (if x68_5 < (l4.length : Int) then ((spec_PaceNext.f k5 a0_0 a0_1 a0_2 a0_3 a1 x2_5 (wrap64 (x15_5 + 1)) (rd l4 x68_5) 0).bind fun t135 => (if x68_5 < (t125.length : Int) then (if (rd t125 x68_5) = t135 then (laws_FnPaceRuns.l1 k5 a1 t135 l4 t125 (wrap64 (x15_5 + 1)) l3 (l3.length : Int) (wrap64 (x68_5 + 1)) a0_0 a0_1 a0_2 a0_3) else (some false)) else (none))) else (none))) = some r := by rw [← hbq32] at H; exact H
                                      have Nbq32 := Aside0.mk hbq32
                                      clear hbq32
                                      by_cases c33 : bq32 = true
                                      · subst c33
                                        have H1 : ((spec_PaceNext.f k5 a0_0 a0_1 a0_2 a0_3 a1 x2_5 0 (-1) 0).bind fun t132 => (if x68_5 < (t125.length : Int) then (if (rd t125 x68_5) = t132 then (laws_FnPaceRuns.l1 k5 a1 t132 l4 t125 0 l3 (l3.length : Int) (wrap64 (x68_5 + 1)) a0_0 a0_1 a0_2 a0_3) else (some false)) else (none))) = some r := by rw [if_pos rfl] at H; exact H
                                        clear H
                                        have H := H1
                                        clear H1
                                        replace H := Option.bind_eq_some_iff.mp H
                                        obtain ⟨t132, A340, H⟩ := H
                                        replace H : (if x68_5 < (t125.length : Int) then (if (rd t125 x68_5) = t132 then (laws_FnPaceRuns.l1 k5 a1 t132 l4 t125 0 l3 (l3.length : Int) (wrap64 (x68_5 + 1)) a0_0 a0_1 a0_2 a0_3) else (some false)) else (none)) = some r := H
                                        have A34 := Aside0.mk A340
                                        clear A340
                                        by_cases c35 : x68_5 < (t125.length : Int)
                                        · rw [if_pos c35] at H
                                          have c35b0 : decide (x68_5 < (t125.length : Int)) = true := decide_eq_true c35
                                          clear c35
                                          by_cases c36 : (rd t125 x68_5) = t132
                                          · rw [if_pos c36] at H
                                            have c36b0 : ((rd t125 x68_5) == t132) = true := beq_iff_eq.mpr c36
                                            have c36b1 : ((rd t125 x68_5) != t132) = false := bne_eq_false_iff_eq.mpr c36
                                            clear c36
                                            have H' := Aside0.mk H
                                            clear H
                                            have p130 : 0 ≤ (x68_5 : Int) := of_decide_eq_true (by first | (with_reducible assumption) | assumption)
                                            have q130 : x68_5 < (l3.length : Int) := of_decide_eq_true (by first | (with_reducible assumption) | assumption)
                                            obtain ⟨ad130, e130, hx130_0⟩ := Kd.at_bool HR3.out x68_5 p130 q130
                                            (try rw [← Nbq32.out] at hx130_0)
                                            cases e130
                                            replace hx130_0 := (HB.out.cell (World.block_lt_of_cell? w _ hx130_0)).trans hx130_0
                                            replace p130 := eq_true p130
                                            replace q130 := eq_true q130
                                            go_upto_region 26 with (first | ((with_reducible refine gate_dst (N := 18) rfl ?_); (try (refine gate_guard (by rfl) ?_; dsimp only)); refine box_event ?hg (N := 18) ?hd (cs := #[.int .i64 0, .int .i64 0, .int .i64 0, .int .i64 0]) (t := 23) ?hr ?_; (case hd => rfl); (case hg => rfl); (case hr => first | (go_simp; done) | (go_simp; rfl)); intro gb131 hg w37 hbox hb; have n0_ := Aside0.mk (Kd.R_below (by (with_reducible repeat (first | apply Kd.R_alloc | apply Kd.R_drewN | apply Kd.R_drew)); exact HO_13.out) hb); have n1_ := Aside0.mk (blk_below (g := gb122) (o := .cells #[.int .i64 a0_0, .int .i64 a0_1, .int .i64 a0_2, .int .i64 a0_3] 26 (0, 0)) (by (with_reducible repeat (first | refine blk_drewN ?_ _ | refine blk_drew ?_ | refine blk_alloc ?_ _)); exact BK122.out) hb); have n2_ := Aside0.mk (below_step (by repeat (first | (with_reducible first | exact HB.out | apply below_alloc | apply pw_below_drewN | apply below_drew1 | refine below_set ?_ GE122.out) | exact HB.out)) hb); have n3_ := Aside0.mk (hbox); have n4_ := Aside0.mk ((by rw [hg]; exact (below_size (by repeat (first | (with_reducible first | exact HB.out | apply below_alloc | apply pw_below_drewN | apply below_drew1 | refine below_set ?_ GE122.out) | exact HB.out))) : w.heap.size ≤ gb131)); have n5_ := Aside0.mk ((by rw [hg]; exact (below_size (by repeat (first | (with_reducible first | exact HB.out | apply below_alloc | apply pw_below_drewN | apply below_drew1 | refine below_set ?_ GE122.out) | exact HB.out))) : w.heap.size ≤ gb131)); have n6_ := Aside0.mk ((by rw [hg]; exact Nat.ne_of_lt (blk_lt (g := gb122) (o := .cells #[.int .i64 a0_0, .int .i64 a0_1, .int .i64 a0_2, .int .i64 a0_3] 26 (0, 0)) (by (with_reducible repeat (first | refine blk_drewN ?_ _ | refine blk_drew ?_ | refine blk_alloc ?_ _)); exact BK122.out)) : gb122 ≠ gb131)); have n7_ := Aside0.mk ((by rw [hg]; exact Nat.ne_of_gt (blk_lt (g := gb122) (o := .cells #[.int .i64 a0_0, .int .i64 a0_1, .int .i64 a0_2, .int .i64 a0_3] 26 (0, 0)) (by (with_reducible repeat (first | refine blk_drewN ?_ _ | refine blk_drew ?_ | refine blk_alloc ?_ _)); exact BK122.out)) : gb131 ≠ gb122)); clear HO_13; clear BK122; clear HB; have HO_13 := n0_; have BK122 := n1_; have HB := n2_; have BK131 := n3_; have GW131 := n4_; have GE131 := n5_; have NB122_131 := n6_; have NB131_122 := n7_; clear n0_ n1_ n2_ n3_ n4_ n5_ n6_ n7_; clear hb hbox hg; have hnb38 := NB131_122.out; have hnc38 := NB122_131.out; have hcz39_0 : w37.cell? ⟨gb131, 0, none⟩ = some (.int .i64 0) := (blk_cell BK131.out 0).trans rfl; have hcz39_1 : w37.cell? ⟨gb131, 1, none⟩ = some (.int .i64 0) := (blk_cell BK131.out 1).trans rfl; have hcz39_2 : w37.cell? ⟨gb131, 2, none⟩ = some (.int .i64 0) := (blk_cell BK131.out 2).trans rfl; have hcz39_3 : w37.cell? ⟨gb131, 3, none⟩ = some (.int .i64 0) := (blk_cell BK131.out 3).trans rfl; have hfz39_0 := blk_frozen BK131.out 0; have hfz39_1 := blk_frozen BK131.out 1; have hfz39_2 := blk_frozen BK131.out 2; have hfz39_3 := blk_frozen BK131.out 3; have hcz40_0 : w37.cell? ⟨gb122, 0, none⟩ = some (.int .i64 a0_0) := (blk_cell BK122.out 0).trans rfl; have hcz40_1 : w37.cell? ⟨gb122, 1, none⟩ = some (.int .i64 a0_1) := (blk_cell BK122.out 1).trans rfl; have hcz40_2 : w37.cell? ⟨gb122, 2, none⟩ = some (.int .i64 a0_2) := (blk_cell BK122.out 2).trans rfl; have hcz40_3 : w37.cell? ⟨gb122, 3, none⟩ = some (.int .i64 a0_3) := (blk_cell BK122.out 3).trans rfl; have hfz40_0 := blk_frozen BK122.out 0; have hfz40_1 := blk_frozen BK122.out 1; have hfz40_2 := blk_frozen BK122.out 2; have hfz40_3 := blk_frozen BK122.out 3))
                                            refine at_w (F := fun W_ => (Kd.int .i64).R 3 W_ w.heap.size (fun _ => True) v126 t125 ∧ W_.heap[gb122]? = some (Obj.cells #[.int .i64 a0_0, .int .i64 a0_1, .int .i64 a0_2, .int .i64 a0_3] 26 (0, 0)) ∧ W_.heap[gb131]? = some (Obj.cells #[.int .i64 x2_5, .int .i64 0, .int .i64 (-1), .int .i64 0] 23 (0, 0)) ∧ Below w.heap.size w W_) ⟨(by (with_reducible repeat (first | apply Kd.R_alloc | apply Kd.R_drewN | apply Kd.R_drew)); exact (Kd.R_mono (Kd.R_far (p := ⟨gb131, 1, none⟩) (Kd.R_far (p := ⟨gb131, 3, none⟩) (Kd.R_far (p := ⟨gb131, 2, none⟩) (Kd.R_far (p := ⟨gb131, 1, none⟩) (Kd.R_far (p := ⟨gb131, 0, none⟩) (Kd.R_types HO_13.out BK131.out (by decide)) (fun _ hk => hk.2) (.int .i64 x2_5)) (fun _ hk => hk.2) (.int .i64 0)) (fun _ hk => hk.2) (.int .i64 (-1))) (fun _ hk => hk.2) (.int .i64 0)) (fun _ hk => hk.2) (.int .i64 0)) (fun _ h_ => h_.1))), (by (with_reducible repeat (first | refine blk_drewN ?_ _ | refine blk_drew ?_ | refine blk_alloc ?_ _)); refine blk_far ?_ NB122_131.out _; (with_reducible repeat (first | refine blk_drewN ?_ _ | refine blk_drew ?_ | refine blk_alloc ?_ _)); refine blk_far ?_ NB122_131.out _; (with_reducible repeat (first | refine blk_drewN ?_ _ | refine blk_drew ?_ | refine blk_alloc ?_ _)); refine blk_far ?_ NB122_131.out _; (with_reducible repeat (first | refine blk_drewN ?_ _ | refine blk_drew ?_ | refine blk_alloc ?_ _)); refine blk_far ?_ NB122_131.out _; (with_reducible repeat (first | refine blk_drewN ?_ _ | refine blk_drew ?_ | refine blk_alloc ?_ _)); refine blk_far ?_ NB122_131.out _; (with_reducible repeat (first | refine blk_drewN ?_ _ | refine blk_drew ?_ | refine blk_alloc ?_ _)); exact BK122.out), (by (with_reducible repeat (first | refine blk_drewN ?_ _ | refine blk_drew ?_ | refine blk_alloc ?_ _)); refine blk_put (cs := #[.int .i64 x2_5, .int .i64 0, .int .i64 (-1), .int .i64 0]) ?_ 1 _ rfl; (with_reducible repeat (first | refine blk_drewN ?_ _ | refine blk_drew ?_ | refine blk_alloc ?_ _)); refine blk_put (cs := #[.int .i64 x2_5, .int .i64 0, .int .i64 (-1), .int .i64 0]) ?_ 3 _ rfl; (with_reducible repeat (first | refine blk_drewN ?_ _ | refine blk_drew ?_ | refine blk_alloc ?_ _)); refine blk_put (cs := #[.int .i64 x2_5, .int .i64 0, .int .i64 0, .int .i64 0]) ?_ 2 _ rfl; (with_reducible repeat (first | refine blk_drewN ?_ _ | refine blk_drew ?_ | refine blk_alloc ?_ _)); refine blk_put (cs := #[.int .i64 x2_5, .int .i64 0, .int .i64 0, .int .i64 0]) ?_ 1 _ rfl; (with_reducible repeat (first | refine blk_drewN ?_ _ | refine blk_drew ?_ | refine blk_alloc ?_ _)); refine blk_put (cs := #[.int .i64 0, .int .i64 0, .int .i64 0, .int .i64 0]) ?_ 0 _ rfl; (with_reducible repeat (first | refine blk_drewN ?_ _ | refine blk_drew ?_ | refine blk_alloc ?_ _)); exact BK131.out), (by repeat (first | (with_reducible first | exact HB.out | apply below_alloc | apply pw_below_drewN | apply below_drew1 | refine below_set ?_ GE122.out | refine below_set ?_ GE131.out) | exact HB.out))⟩ (fun W_ hF_ => ?_)
                                            clear HO_13 BK122 BK131 HB
                                            obtain ⟨f1_, f2_, f3_, f4_⟩ := hF_
                                            have HO_13 := Aside0.mk f1_; have BK122 := Aside0.mk f2_; have BK131 := Aside0.mk f3_; have HB := Aside0.mk f4_; clear f1_ f2_ f3_ f4_
                                            have hla_0 : World.cell? _ ⟨gb122, 0, none⟩ = some (.int .i64 a0_0) := (blk_cell BK122.out 0).trans rfl
                                            have hla_1 : World.cell? _ ⟨gb122, 1, none⟩ = some (.int .i64 a0_1) := (blk_cell BK122.out 1).trans rfl
                                            have hla_2 : World.cell? _ ⟨gb122, 2, none⟩ = some (.int .i64 a0_2) := (blk_cell BK122.out 2).trans rfl
                                            have hla_3 : World.cell? _ ⟨gb122, 3, none⟩ = some (.int .i64 a0_3) := (blk_cell BK122.out 3).trans rfl
                                            have hlb_0 : World.cell? _ ⟨gb131, 0, none⟩ = some (.int .i64 x2_5) := (blk_cell BK131.out 0).trans rfl
                                            have hlb_1 : World.cell? _ ⟨gb131, 1, none⟩ = some (.int .i64 0) := (blk_cell BK131.out 1).trans rfl
                                            have hlb_2 : World.cell? _ ⟨gb131, 2, none⟩ = some (.int .i64 (-1)) := (blk_cell BK131.out 2).trans rfl
                                            have hlb_3 : World.cell? _ ⟨gb131, 3, none⟩ = some (.int .i64 0) := (blk_cell BK131.out 3).trans rfl
                                            go_wp2_with (first | ((with_reducible refine gate_callee (f := 11) rfl ?_); refine goesL_ (some 88) rfl rfl Try.func11 (by kernel_rfl) rfl #[.agg #[.int .i64 a0_0, .int .i64 a0_1, .int .i64 a0_2, .int .i64 a0_3], .bool a1, .agg #[.int .i64 x2_5, .int .i64 0, .int .i64 (-1), .int .i64 0]] rfl (by (try simp only [List.map_toArray, List.map_cons, List.map_nil]); first | done | rfl | (simp only [List.length_drop, List.length_take]; rfl)) ?_; (with_reducible refine (spec_PaceNext.calls k5 a0_0 a0_1 a0_2 a0_3 a1 x2_5 0 (-1) 0 t132 _ A34.out).mono ?_); rintro e w41 ⟨rfl, hb⟩; refine ⟨_, rfl, ?_⟩; have n0_ := Aside0.mk (Kd.R_below HO_13.out hb); have n1_ := Aside0.mk (blk_below (g := gb122) (o := .cells #[.int .i64 a0_0, .int .i64 a0_1, .int .i64 a0_2, .int .i64 a0_3] 26 (0, 0)) BK122.out hb); have n2_ := Aside0.mk (blk_below (g := gb131) (o := .cells #[.int .i64 x2_5, .int .i64 0, .int .i64 (-1), .int .i64 0] 23 (0, 0)) BK131.out hb); have n3_ := Aside0.mk (below_step (by repeat (first | (with_reducible first | exact HB.out | apply below_alloc | apply pw_below_drewN | apply below_drew1 | refine below_set ?_ GE122.out | refine below_set ?_ GE131.out) | exact HB.out)) hb); clear HO_13; clear BK122; clear BK131; clear HB; have HO_13 := n0_; have BK122 := n1_; have BK131 := n2_; have HB := n3_; clear n0_ n1_ n2_ n3_; (try clear hb); (try clear hb2); (try clear hk); (try clear hi); obtain ⟨Ao42, co42, eo42⟩ := Kd.R_slice HO_13.out; subst eo42; have p133 : 0 ≤ (x68_5 : Int) := of_decide_eq_true (by first | (with_reducible assumption) | assumption); have q133 : x68_5 < (t125.length : Int) := of_decide_eq_true (by first | (with_reducible assumption) | assumption); obtain ⟨ad133, e133, hx133_0⟩ := Kd.at_int (Kd.R_reads' HO_13.out).2.2 x68_5 p133 q133; cases e133; replace p133 := eq_true p133; replace q133 := eq_true q133))
                                            go_roundg k5
                                            case measure => have := HJ5.out; have := HJ9.out; have := HK3.out; have := HJ19.out; have := HK5.out; omega
                                            case rel => exact ⟨(t132), (0), (wrap64 (x68_5 + 1)), (by first | rfl | (simp; done) | (simp [*]; done)), (by first | rfl | (simp; done) | (simp [*]; done)), (by first | rfl | (simp; done) | (simp [*]; done)), H', ⟨by have := HJ5.out; have := HJ9.out; have := HK3.out; have := HJ19.out; have := HK5.out; omega⟩, ⟨by (with_reducible repeat (first | apply Kd.R_alloc | apply Kd.R_drewN | apply Kd.R_drew)); exact HO_13.out⟩, ⟨by (with_reducible repeat (first | refine blk_drewN ?_ _ | refine blk_drew ?_ | refine blk_alloc ?_ _)); exact BK122.out⟩, ⟨by repeat (first | (with_reducible first | exact HB.out | apply below_alloc | apply pw_below_drewN | apply below_drew1 | refine below_set ?_ GE122.out | refine below_set ?_ GE131.out) | exact HB.out)⟩⟩
                                          · rw [if_neg c36] at H
                                            have c36b0 : ((rd t125 x68_5) == t132) = false := beq_eq_false_iff_ne.mpr c36
                                            have c36b1 : ((rd t125 x68_5) != t132) = true := bne_iff_ne.mpr c36
                                            obtain rfl := Option.some.inj H
                                            have p130 : 0 ≤ (x68_5 : Int) := of_decide_eq_true (by first | (with_reducible assumption) | assumption)
                                            have q130 : x68_5 < (l3.length : Int) := of_decide_eq_true (by first | (with_reducible assumption) | assumption)
                                            obtain ⟨ad130, e130, hx130_0⟩ := Kd.at_bool HR3.out x68_5 p130 q130
                                            (try rw [← Nbq32.out] at hx130_0)
                                            cases e130
                                            replace hx130_0 := (HB.out.cell (World.block_lt_of_cell? w _ hx130_0)).trans hx130_0
                                            replace p130 := eq_true p130
                                            replace q130 := eq_true q130
                                            go_upto_region 26 with (first | ((with_reducible refine gate_dst (N := 18) rfl ?_); (try (refine gate_guard (by rfl) ?_; dsimp only)); refine box_event ?hg (N := 18) ?hd (cs := #[.int .i64 0, .int .i64 0, .int .i64 0, .int .i64 0]) (t := 23) ?hr ?_; (case hd => rfl); (case hg => rfl); (case hr => first | (go_simp; done) | (go_simp; rfl)); intro gb131 hg w43 hbox hb; have n0_ := Aside0.mk (Kd.R_below (by (with_reducible repeat (first | apply Kd.R_alloc | apply Kd.R_drewN | apply Kd.R_drew)); exact HO_13.out) hb); have n1_ := Aside0.mk (blk_below (g := gb122) (o := .cells #[.int .i64 a0_0, .int .i64 a0_1, .int .i64 a0_2, .int .i64 a0_3] 26 (0, 0)) (by (with_reducible repeat (first | refine blk_drewN ?_ _ | refine blk_drew ?_ | refine blk_alloc ?_ _)); exact BK122.out) hb); have n2_ := Aside0.mk (below_step (by repeat (first | (with_reducible first | exact HB.out | apply below_alloc | apply pw_below_drewN | apply below_drew1 | refine below_set ?_ GE122.out) | exact HB.out)) hb); have n3_ := Aside0.mk (hbox); have n4_ := Aside0.mk ((by rw [hg]; exact (below_size (by repeat (first | (with_reducible first | exact HB.out | apply below_alloc | apply pw_below_drewN | apply below_drew1 | refine below_set ?_ GE122.out) | exact HB.out))) : w.heap.size ≤ gb131)); have n5_ := Aside0.mk ((by rw [hg]; exact (below_size (by repeat (first | (with_reducible first | exact HB.out | apply below_alloc | apply pw_below_drewN | apply below_drew1 | refine below_set ?_ GE122.out) | exact HB.out))) : w.heap.size ≤ gb131)); have n6_ := Aside0.mk ((by rw [hg]; exact Nat.ne_of_lt (blk_lt (g := gb122) (o := .cells #[.int .i64 a0_0, .int .i64 a0_1, .int .i64 a0_2, .int .i64 a0_3] 26 (0, 0)) (by (with_reducible repeat (first | refine blk_drewN ?_ _ | refine blk_drew ?_ | refine blk_alloc ?_ _)); exact BK122.out)) : gb122 ≠ gb131)); have n7_ := Aside0.mk ((by rw [hg]; exact Nat.ne_of_gt (blk_lt (g := gb122) (o := .cells #[.int .i64 a0_0, .int .i64 a0_1, .int .i64 a0_2, .int .i64 a0_3] 26 (0, 0)) (by (with_reducible repeat (first | refine blk_drewN ?_ _ | refine blk_drew ?_ | refine blk_alloc ?_ _)); exact BK122.out)) : gb131 ≠ gb122)); clear HO_13; clear BK122; clear HB; have HO_13 := n0_; have BK122 := n1_; have HB := n2_; have BK131 := n3_; have GW131 := n4_; have GE131 := n5_; have NB122_131 := n6_; have NB131_122 := n7_; clear n0_ n1_ n2_ n3_ n4_ n5_ n6_ n7_; clear hb hbox hg; have hnb44 := NB131_122.out; have hnc44 := NB122_131.out; have hcz45_0 : w43.cell? ⟨gb131, 0, none⟩ = some (.int .i64 0) := (blk_cell BK131.out 0).trans rfl; have hcz45_1 : w43.cell? ⟨gb131, 1, none⟩ = some (.int .i64 0) := (blk_cell BK131.out 1).trans rfl; have hcz45_2 : w43.cell? ⟨gb131, 2, none⟩ = some (.int .i64 0) := (blk_cell BK131.out 2).trans rfl; have hcz45_3 : w43.cell? ⟨gb131, 3, none⟩ = some (.int .i64 0) := (blk_cell BK131.out 3).trans rfl; have hfz45_0 := blk_frozen BK131.out 0; have hfz45_1 := blk_frozen BK131.out 1; have hfz45_2 := blk_frozen BK131.out 2; have hfz45_3 := blk_frozen BK131.out 3; have hcz46_0 : w43.cell? ⟨gb122, 0, none⟩ = some (.int .i64 a0_0) := (blk_cell BK122.out 0).trans rfl; have hcz46_1 : w43.cell? ⟨gb122, 1, none⟩ = some (.int .i64 a0_1) := (blk_cell BK122.out 1).trans rfl; have hcz46_2 : w43.cell? ⟨gb122, 2, none⟩ = some (.int .i64 a0_2) := (blk_cell BK122.out 2).trans rfl; have hcz46_3 : w43.cell? ⟨gb122, 3, none⟩ = some (.int .i64 a0_3) := (blk_cell BK122.out 3).trans rfl; have hfz46_0 := blk_frozen BK122.out 0; have hfz46_1 := blk_frozen BK122.out 1; have hfz46_2 := blk_frozen BK122.out 2; have hfz46_3 := blk_frozen BK122.out 3))
                                            refine at_w (F := fun W_ => (Kd.int .i64).R 3 W_ w.heap.size (fun _ => True) v126 t125 ∧ W_.heap[gb122]? = some (Obj.cells #[.int .i64 a0_0, .int .i64 a0_1, .int .i64 a0_2, .int .i64 a0_3] 26 (0, 0)) ∧ W_.heap[gb131]? = some (Obj.cells #[.int .i64 x2_5, .int .i64 0, .int .i64 (-1), .int .i64 0] 23 (0, 0)) ∧ Below w.heap.size w W_) ⟨(by (with_reducible repeat (first | apply Kd.R_alloc | apply Kd.R_drewN | apply Kd.R_drew)); exact (Kd.R_mono (Kd.R_far (p := ⟨gb131, 1, none⟩) (Kd.R_far (p := ⟨gb131, 3, none⟩) (Kd.R_far (p := ⟨gb131, 2, none⟩) (Kd.R_far (p := ⟨gb131, 1, none⟩) (Kd.R_far (p := ⟨gb131, 0, none⟩) (Kd.R_types HO_13.out BK131.out (by decide)) (fun _ hk => hk.2) (.int .i64 x2_5)) (fun _ hk => hk.2) (.int .i64 0)) (fun _ hk => hk.2) (.int .i64 (-1))) (fun _ hk => hk.2) (.int .i64 0)) (fun _ hk => hk.2) (.int .i64 0)) (fun _ h_ => h_.1))), (by (with_reducible repeat (first | refine blk_drewN ?_ _ | refine blk_drew ?_ | refine blk_alloc ?_ _)); refine blk_far ?_ NB122_131.out _; (with_reducible repeat (first | refine blk_drewN ?_ _ | refine blk_drew ?_ | refine blk_alloc ?_ _)); refine blk_far ?_ NB122_131.out _; (with_reducible repeat (first | refine blk_drewN ?_ _ | refine blk_drew ?_ | refine blk_alloc ?_ _)); refine blk_far ?_ NB122_131.out _; (with_reducible repeat (first | refine blk_drewN ?_ _ | refine blk_drew ?_ | refine blk_alloc ?_ _)); refine blk_far ?_ NB122_131.out _; (with_reducible repeat (first | refine blk_drewN ?_ _ | refine blk_drew ?_ | refine blk_alloc ?_ _)); refine blk_far ?_ NB122_131.out _; (with_reducible repeat (first | refine blk_drewN ?_ _ | refine blk_drew ?_ | refine blk_alloc ?_ _)); exact BK122.out), (by (with_reducible repeat (first | refine blk_drewN ?_ _ | refine blk_drew ?_ | refine blk_alloc ?_ _)); refine blk_put (cs := #[.int .i64 x2_5, .int .i64 0, .int .i64 (-1), .int .i64 0]) ?_ 1 _ rfl; (with_reducible repeat (first | refine blk_drewN ?_ _ | refine blk_drew ?_ | refine blk_alloc ?_ _)); refine blk_put (cs := #[.int .i64 x2_5, .int .i64 0, .int .i64 (-1), .int .i64 0]) ?_ 3 _ rfl; (with_reducible repeat (first | refine blk_drewN ?_ _ | refine blk_drew ?_ | refine blk_alloc ?_ _)); refine blk_put (cs := #[.int .i64 x2_5, .int .i64 0, .int .i64 0, .int .i64 0]) ?_ 2 _ rfl; (with_reducible repeat (first | refine blk_drewN ?_ _ | refine blk_drew ?_ | refine blk_alloc ?_ _)); refine blk_put (cs := #[.int .i64 x2_5, .int .i64 0, .int .i64 0, .int .i64 0]) ?_ 1 _ rfl; (with_reducible repeat (first | refine blk_drewN ?_ _ | refine blk_drew ?_ | refine blk_alloc ?_ _)); refine blk_put (cs := #[.int .i64 0, .int .i64 0, .int .i64 0, .int .i64 0]) ?_ 0 _ rfl; (with_reducible repeat (first | refine blk_drewN ?_ _ | refine blk_drew ?_ | refine blk_alloc ?_ _)); exact BK131.out), (by repeat (first | (with_reducible first | exact HB.out | apply below_alloc | apply pw_below_drewN | apply below_drew1 | refine below_set ?_ GE122.out | refine below_set ?_ GE131.out) | exact HB.out))⟩ (fun W_ hF_ => ?_)
                                            clear HO_13 BK122 BK131 HB
                                            obtain ⟨f1_, f2_, f3_, f4_⟩ := hF_
                                            have HO_13 := Aside0.mk f1_; have BK122 := Aside0.mk f2_; have BK131 := Aside0.mk f3_; have HB := Aside0.mk f4_; clear f1_ f2_ f3_ f4_
                                            have hla_0 : World.cell? _ ⟨gb122, 0, none⟩ = some (.int .i64 a0_0) := (blk_cell BK122.out 0).trans rfl
                                            have hla_1 : World.cell? _ ⟨gb122, 1, none⟩ = some (.int .i64 a0_1) := (blk_cell BK122.out 1).trans rfl
                                            have hla_2 : World.cell? _ ⟨gb122, 2, none⟩ = some (.int .i64 a0_2) := (blk_cell BK122.out 2).trans rfl
                                            have hla_3 : World.cell? _ ⟨gb122, 3, none⟩ = some (.int .i64 a0_3) := (blk_cell BK122.out 3).trans rfl
                                            have hlb_0 : World.cell? _ ⟨gb131, 0, none⟩ = some (.int .i64 x2_5) := (blk_cell BK131.out 0).trans rfl
                                            have hlb_1 : World.cell? _ ⟨gb131, 1, none⟩ = some (.int .i64 0) := (blk_cell BK131.out 1).trans rfl
                                            have hlb_2 : World.cell? _ ⟨gb131, 2, none⟩ = some (.int .i64 (-1)) := (blk_cell BK131.out 2).trans rfl
                                            have hlb_3 : World.cell? _ ⟨gb131, 3, none⟩ = some (.int .i64 0) := (blk_cell BK131.out 3).trans rfl
                                            go_wp2_with (first | ((with_reducible refine gate_callee (f := 11) rfl ?_); refine goesL_ (some 88) rfl rfl Try.func11 (by kernel_rfl) rfl #[.agg #[.int .i64 a0_0, .int .i64 a0_1, .int .i64 a0_2, .int .i64 a0_3], .bool a1, .agg #[.int .i64 x2_5, .int .i64 0, .int .i64 (-1), .int .i64 0]] rfl (by (try simp only [List.map_toArray, List.map_cons, List.map_nil]); first | done | rfl | (simp only [List.length_drop, List.length_take]; rfl)) ?_; (with_reducible refine (spec_PaceNext.calls k5 a0_0 a0_1 a0_2 a0_3 a1 x2_5 0 (-1) 0 t132 _ A34.out).mono ?_); rintro e w47 ⟨rfl, hb⟩; refine ⟨_, rfl, ?_⟩; have n0_ := Aside0.mk (Kd.R_below HO_13.out hb); have n1_ := Aside0.mk (blk_below (g := gb122) (o := .cells #[.int .i64 a0_0, .int .i64 a0_1, .int .i64 a0_2, .int .i64 a0_3] 26 (0, 0)) BK122.out hb); have n2_ := Aside0.mk (blk_below (g := gb131) (o := .cells #[.int .i64 x2_5, .int .i64 0, .int .i64 (-1), .int .i64 0] 23 (0, 0)) BK131.out hb); have n3_ := Aside0.mk (below_step (by repeat (first | (with_reducible first | exact HB.out | apply below_alloc | apply pw_below_drewN | apply below_drew1 | refine below_set ?_ GE122.out | refine below_set ?_ GE131.out) | exact HB.out)) hb); clear HO_13; clear BK122; clear BK131; clear HB; have HO_13 := n0_; have BK122 := n1_; have BK131 := n2_; have HB := n3_; clear n0_ n1_ n2_ n3_; (try clear hb); (try clear hb2); (try clear hk); (try clear hi); obtain ⟨Ao48, co48, eo48⟩ := Kd.R_slice HO_13.out; subst eo48; have p133 : 0 ≤ (x68_5 : Int) := of_decide_eq_true (by first | (with_reducible assumption) | assumption); have q133 : x68_5 < (t125.length : Int) := of_decide_eq_true (by first | (with_reducible assumption) | assumption); obtain ⟨ad133, e133, hx133_0⟩ := Kd.at_int (Kd.R_reads' HO_13.out).2.2 x68_5 p133 q133; cases e133; replace p133 := eq_true p133; replace q133 := eq_true q133))
                                            go_ret
                                            exact ⟨by first | rfl | (simp [errW_none, errW_some] <;> rfl) | (simp [*, errW_none, errW_some] <;> rfl), by repeat (first | (with_reducible first | exact HB.out | apply below_alloc | apply pw_below_drewN | apply below_drew1 | refine below_set ?_ GE122.out | refine below_set ?_ GE131.out) | exact HB.out)⟩
                                        · rw [if_neg c35] at H
                                          exact absurd H (by simp)
                                      · replace c33 := Bool.eq_false_iff.mpr c33
                                        subst c33
                                        have H1 : (if x68_5 < (l4.length : Int) then ((spec_PaceNext.f k5 a0_0 a0_1 a0_2 a0_3 a1 x2_5 (wrap64 (x15_5 + 1)) (rd l4 x68_5) 0).bind fun t135 => (if x68_5 < (t125.length : Int) then (if (rd t125 x68_5) = t135 then (laws_FnPaceRuns.l1 k5 a1 t135 l4 t125 (wrap64 (x15_5 + 1)) l3 (l3.length : Int) (wrap64 (x68_5 + 1)) a0_0 a0_1 a0_2 a0_3) else (some false)) else (none))) else (none)) = some r := by rw [if_neg (show ¬ (false = true) by decide)] at H; exact H
                                        clear H
                                        have H := H1
                                        clear H1
                                        by_cases c49 : x68_5 < (l4.length : Int)
                                        · rw [if_pos c49] at H
                                          have c49b0 : decide (x68_5 < (l4.length : Int)) = true := decide_eq_true c49
                                          clear c49
                                          replace H := Option.bind_eq_some_iff.mp H
                                          obtain ⟨t135, A500, H⟩ := H
                                          replace H : (if x68_5 < (t125.length : Int) then (if (rd t125 x68_5) = t135 then (laws_FnPaceRuns.l1 k5 a1 t135 l4 t125 (wrap64 (x15_5 + 1)) l3 (l3.length : Int) (wrap64 (x68_5 + 1)) a0_0 a0_1 a0_2 a0_3) else (some false)) else (none)) = some r := H
                                          have A50 := Aside0.mk A500
                                          clear A500
                                          by_cases c51 : x68_5 < (t125.length : Int)
                                          · rw [if_pos c51] at H
                                            have c51b0 : decide (x68_5 < (t125.length : Int)) = true := decide_eq_true c51
                                            clear c51
                                            by_cases c52 : (rd t125 x68_5) = t135
                                            · rw [if_pos c52] at H
                                              have c52b0 : ((rd t125 x68_5) == t135) = true := beq_iff_eq.mpr c52
                                              have c52b1 : ((rd t125 x68_5) != t135) = false := bne_eq_false_iff_eq.mpr c52
                                              clear c52
                                              have H' := Aside0.mk H
                                              clear H
                                              have p130 : 0 ≤ (x68_5 : Int) := of_decide_eq_true (by first | (with_reducible assumption) | assumption)
                                              have q130 : x68_5 < (l3.length : Int) := of_decide_eq_true (by first | (with_reducible assumption) | assumption)
                                              obtain ⟨ad130, e130, hx130_0⟩ := Kd.at_bool HR3.out x68_5 p130 q130
                                              (try rw [← Nbq32.out] at hx130_0)
                                              cases e130
                                              replace hx130_0 := (HB.out.cell (World.block_lt_of_cell? w _ hx130_0)).trans hx130_0
                                              replace p130 := eq_true p130
                                              replace q130 := eq_true q130
                                              go_upto_region 26 with (first | ((with_reducible refine gate_dst (N := 18) rfl ?_); (try (refine gate_guard (by rfl) ?_; dsimp only)); refine box_event ?hg (N := 18) ?hd (cs := #[.int .i64 0, .int .i64 0, .int .i64 0, .int .i64 0]) (t := 23) ?hr ?_; (case hd => rfl); (case hg => rfl); (case hr => first | (go_simp; done) | (go_simp; rfl)); intro gb131 hg w53 hbox hb; have n0_ := Aside0.mk (Kd.R_below (by (with_reducible repeat (first | apply Kd.R_alloc | apply Kd.R_drewN | apply Kd.R_drew)); exact HO_13.out) hb); have n1_ := Aside0.mk (blk_below (g := gb122) (o := .cells #[.int .i64 a0_0, .int .i64 a0_1, .int .i64 a0_2, .int .i64 a0_3] 26 (0, 0)) (by (with_reducible repeat (first | refine blk_drewN ?_ _ | refine blk_drew ?_ | refine blk_alloc ?_ _)); exact BK122.out) hb); have n2_ := Aside0.mk (below_step (by repeat (first | (with_reducible first | exact HB.out | apply below_alloc | apply pw_below_drewN | apply below_drew1 | refine below_set ?_ GE122.out) | exact HB.out)) hb); have n3_ := Aside0.mk (hbox); have n4_ := Aside0.mk ((by rw [hg]; exact (below_size (by repeat (first | (with_reducible first | exact HB.out | apply below_alloc | apply pw_below_drewN | apply below_drew1 | refine below_set ?_ GE122.out) | exact HB.out))) : w.heap.size ≤ gb131)); have n5_ := Aside0.mk ((by rw [hg]; exact (below_size (by repeat (first | (with_reducible first | exact HB.out | apply below_alloc | apply pw_below_drewN | apply below_drew1 | refine below_set ?_ GE122.out) | exact HB.out))) : w.heap.size ≤ gb131)); have n6_ := Aside0.mk ((by rw [hg]; exact Nat.ne_of_lt (blk_lt (g := gb122) (o := .cells #[.int .i64 a0_0, .int .i64 a0_1, .int .i64 a0_2, .int .i64 a0_3] 26 (0, 0)) (by (with_reducible repeat (first | refine blk_drewN ?_ _ | refine blk_drew ?_ | refine blk_alloc ?_ _)); exact BK122.out)) : gb122 ≠ gb131)); have n7_ := Aside0.mk ((by rw [hg]; exact Nat.ne_of_gt (blk_lt (g := gb122) (o := .cells #[.int .i64 a0_0, .int .i64 a0_1, .int .i64 a0_2, .int .i64 a0_3] 26 (0, 0)) (by (with_reducible repeat (first | refine blk_drewN ?_ _ | refine blk_drew ?_ | refine blk_alloc ?_ _)); exact BK122.out)) : gb131 ≠ gb122)); clear HO_13; clear BK122; clear HB; have HO_13 := n0_; have BK122 := n1_; have HB := n2_; have BK131 := n3_; have GW131 := n4_; have GE131 := n5_; have NB122_131 := n6_; have NB131_122 := n7_; clear n0_ n1_ n2_ n3_ n4_ n5_ n6_ n7_; clear hb hbox hg; have hnb54 := NB131_122.out; have hnc54 := NB122_131.out; have hcz55_0 : w53.cell? ⟨gb131, 0, none⟩ = some (.int .i64 0) := (blk_cell BK131.out 0).trans rfl; have hcz55_1 : w53.cell? ⟨gb131, 1, none⟩ = some (.int .i64 0) := (blk_cell BK131.out 1).trans rfl; have hcz55_2 : w53.cell? ⟨gb131, 2, none⟩ = some (.int .i64 0) := (blk_cell BK131.out 2).trans rfl; have hcz55_3 : w53.cell? ⟨gb131, 3, none⟩ = some (.int .i64 0) := (blk_cell BK131.out 3).trans rfl; have hfz55_0 := blk_frozen BK131.out 0; have hfz55_1 := blk_frozen BK131.out 1; have hfz55_2 := blk_frozen BK131.out 2; have hfz55_3 := blk_frozen BK131.out 3; have p134 : 0 ≤ (x68_5 : Int) := of_decide_eq_true (by first | (with_reducible assumption) | assumption); have q134 : x68_5 < (l4.length : Int) := of_decide_eq_true (by first | (with_reducible assumption) | assumption); obtain ⟨ad134, e134, hx134_0⟩ := Kd.at_int HR4.out x68_5 p134 q134; cases e134; have hn134_0 : ad134.block ≠ gb131 := Nat.ne_of_lt (Nat.lt_of_lt_of_le (by have := World.block_lt_of_cell? _ _ hx134_0; first | rwa [add_block] at this | exact this) GW131.out); have hn134_1 : ad134.block ≠ gb131 := Nat.ne_of_lt (Nat.lt_of_lt_of_le (by have := World.block_lt_of_cell? _ _ hx134_0; first | rwa [add_block] at this | exact this) GW131.out); have hn134_2 : ad134.block ≠ gb131 := Nat.ne_of_lt (Nat.lt_of_lt_of_le (by have := World.block_lt_of_cell? _ _ hx134_0; first | rwa [add_block] at this | exact this) GW131.out); have hn134_3 : ad134.block ≠ gb131 := Nat.ne_of_lt (Nat.lt_of_lt_of_le (by have := World.block_lt_of_cell? _ _ hx134_0; first | rwa [add_block] at this | exact this) GW131.out); replace hx134_0 := (HB.out.cell (World.block_lt_of_cell? w _ hx134_0)).trans hx134_0; replace hx134_0 := (cell_far (p := ⟨gb131, 0, none⟩) (by first | (rw [add_block]; exact hn134_0) | (show (Addr.add _ _).block ≠ _; rw [add_block]; exact hn134_0) | exact hn134_0) (.int .i64 x2_5)).trans hx134_0; replace hx134_0 := (cell_far (p := ⟨gb131, 1, none⟩) (by first | (rw [add_block]; exact hn134_1) | (show (Addr.add _ _).block ≠ _; rw [add_block]; exact hn134_1) | exact hn134_1) (.int .i64 0)).trans hx134_0; replace hx134_0 := (cell_far (p := ⟨gb131, 2, none⟩) (by first | (rw [add_block]; exact hn134_2) | (show (Addr.add _ _).block ≠ _; rw [add_block]; exact hn134_2) | exact hn134_2) (.int .i64 (-1))).trans hx134_0; replace hx134_0 := (cell_far (p := ⟨gb131, 3, none⟩) (by first | (rw [add_block]; exact hn134_3) | (show (Addr.add _ _).block ≠ _; rw [add_block]; exact hn134_3) | exact hn134_3) (.int .i64 0)).trans hx134_0; clear hn134_0; clear hn134_1; clear hn134_2; clear hn134_3; replace p134 := eq_true p134; replace q134 := eq_true q134; have hcz56_0 : w53.cell? ⟨gb122, 0, none⟩ = some (.int .i64 a0_0) := (blk_cell BK122.out 0).trans rfl; have hcz56_1 : w53.cell? ⟨gb122, 1, none⟩ = some (.int .i64 a0_1) := (blk_cell BK122.out 1).trans rfl; have hcz56_2 : w53.cell? ⟨gb122, 2, none⟩ = some (.int .i64 a0_2) := (blk_cell BK122.out 2).trans rfl; have hcz56_3 : w53.cell? ⟨gb122, 3, none⟩ = some (.int .i64 a0_3) := (blk_cell BK122.out 3).trans rfl; have hfz56_0 := blk_frozen BK122.out 0; have hfz56_1 := blk_frozen BK122.out 1; have hfz56_2 := blk_frozen BK122.out 2; have hfz56_3 := blk_frozen BK122.out 3))
                                              refine at_w (F := fun W_ => (Kd.int .i64).R 3 W_ w.heap.size (fun _ => True) v126 t125 ∧ W_.heap[gb122]? = some (Obj.cells #[.int .i64 a0_0, .int .i64 a0_1, .int .i64 a0_2, .int .i64 a0_3] 26 (0, 0)) ∧ W_.heap[gb131]? = some (Obj.cells #[.int .i64 x2_5, .int .i64 (wrap64 (x15_5 + 1)), .int .i64 (rd l4 x68_5), .int .i64 0] 23 (0, 0)) ∧ Below w.heap.size w W_) ⟨(by (with_reducible repeat (first | apply Kd.R_alloc | apply Kd.R_drewN | apply Kd.R_drew)); exact (Kd.R_mono (Kd.R_far (p := ⟨gb131, 1, none⟩) (Kd.R_far (p := ⟨gb131, 2, none⟩) (Kd.R_far (p := ⟨gb131, 3, none⟩) (Kd.R_far (p := ⟨gb131, 2, none⟩) (Kd.R_far (p := ⟨gb131, 1, none⟩) (Kd.R_far (p := ⟨gb131, 0, none⟩) (Kd.R_types HO_13.out BK131.out (by decide)) (fun _ hk => hk.2) (.int .i64 x2_5)) (fun _ hk => hk.2) (.int .i64 0)) (fun _ hk => hk.2) (.int .i64 (-1))) (fun _ hk => hk.2) (.int .i64 0)) (fun _ hk => hk.2) (.int .i64 (rd l4 x68_5))) (fun _ hk => hk.2) (.int .i64 (wrap64 (x15_5 + 1)))) (fun _ h_ => h_.1))), (by (with_reducible repeat (first | refine blk_drewN ?_ _ | refine blk_drew ?_ | refine blk_alloc ?_ _)); refine blk_far ?_ NB122_131.out _; (with_reducible repeat (first | refine blk_drewN ?_ _ | refine blk_drew ?_ | refine blk_alloc ?_ _)); refine blk_far ?_ NB122_131.out _; (with_reducible repeat (first | refine blk_drewN ?_ _ | refine blk_drew ?_ | refine blk_alloc ?_ _)); refine blk_far ?_ NB122_131.out _; (with_reducible repeat (first | refine blk_drewN ?_ _ | refine blk_drew ?_ | refine blk_alloc ?_ _)); refine blk_far ?_ NB122_131.out _; (with_reducible repeat (first | refine blk_drewN ?_ _ | refine blk_drew ?_ | refine blk_alloc ?_ _)); refine blk_far ?_ NB122_131.out _; (with_reducible repeat (first | refine blk_drewN ?_ _ | refine blk_drew ?_ | refine blk_alloc ?_ _)); refine blk_far ?_ NB122_131.out _; (with_reducible repeat (first | refine blk_drewN ?_ _ | refine blk_drew ?_ | refine blk_alloc ?_ _)); exact BK122.out), (by (with_reducible repeat (first | refine blk_drewN ?_ _ | refine blk_drew ?_ | refine blk_alloc ?_ _)); refine blk_put (cs := #[.int .i64 x2_5, .int .i64 0, .int .i64 (rd l4 x68_5), .int .i64 0]) ?_ 1 _ rfl; (with_reducible repeat (first | refine blk_drewN ?_ _ | refine blk_drew ?_ | refine blk_alloc ?_ _)); refine blk_put (cs := #[.int .i64 x2_5, .int .i64 0, .int .i64 (-1), .int .i64 0]) ?_ 2 _ rfl; (with_reducible repeat (first | refine blk_drewN ?_ _ | refine blk_drew ?_ | refine blk_alloc ?_ _)); refine blk_put (cs := #[.int .i64 x2_5, .int .i64 0, .int .i64 (-1), .int .i64 0]) ?_ 3 _ rfl; (with_reducible repeat (first | refine blk_drewN ?_ _ | refine blk_drew ?_ | refine blk_alloc ?_ _)); refine blk_put (cs := #[.int .i64 x2_5, .int .i64 0, .int .i64 0, .int .i64 0]) ?_ 2 _ rfl; (with_reducible repeat (first | refine blk_drewN ?_ _ | refine blk_drew ?_ | refine blk_alloc ?_ _)); refine blk_put (cs := #[.int .i64 x2_5, .int .i64 0, .int .i64 0, .int .i64 0]) ?_ 1 _ rfl; (with_reducible repeat (first | refine blk_drewN ?_ _ | refine blk_drew ?_ | refine blk_alloc ?_ _)); refine blk_put (cs := #[.int .i64 0, .int .i64 0, .int .i64 0, .int .i64 0]) ?_ 0 _ rfl; (with_reducible repeat (first | refine blk_drewN ?_ _ | refine blk_drew ?_ | refine blk_alloc ?_ _)); exact BK131.out), (by repeat (first | (with_reducible first | exact HB.out | apply below_alloc | apply pw_below_drewN | apply below_drew1 | refine below_set ?_ GE122.out | refine below_set ?_ GE131.out) | exact HB.out))⟩ (fun W_ hF_ => ?_)
                                              clear HO_13 BK122 BK131 HB
                                              obtain ⟨f1_, f2_, f3_, f4_⟩ := hF_
                                              have HO_13 := Aside0.mk f1_; have BK122 := Aside0.mk f2_; have BK131 := Aside0.mk f3_; have HB := Aside0.mk f4_; clear f1_ f2_ f3_ f4_
                                              have hla_0 : World.cell? _ ⟨gb122, 0, none⟩ = some (.int .i64 a0_0) := (blk_cell BK122.out 0).trans rfl
                                              have hla_1 : World.cell? _ ⟨gb122, 1, none⟩ = some (.int .i64 a0_1) := (blk_cell BK122.out 1).trans rfl
                                              have hla_2 : World.cell? _ ⟨gb122, 2, none⟩ = some (.int .i64 a0_2) := (blk_cell BK122.out 2).trans rfl
                                              have hla_3 : World.cell? _ ⟨gb122, 3, none⟩ = some (.int .i64 a0_3) := (blk_cell BK122.out 3).trans rfl
                                              have hlb_0 : World.cell? _ ⟨gb131, 0, none⟩ = some (.int .i64 x2_5) := (blk_cell BK131.out 0).trans rfl
                                              have hlb_1 : World.cell? _ ⟨gb131, 1, none⟩ = some (.int .i64 (wrap64 (x15_5 + 1))) := (blk_cell BK131.out 1).trans rfl
                                              have hlb_2 : World.cell? _ ⟨gb131, 2, none⟩ = some (.int .i64 (rd l4 x68_5)) := (blk_cell BK131.out 2).trans rfl
                                              have hlb_3 : World.cell? _ ⟨gb131, 3, none⟩ = some (.int .i64 0) := (blk_cell BK131.out 3).trans rfl
                                              go_wp2_with (first | ((with_reducible refine gate_callee (f := 11) rfl ?_); refine goesL_ (some 88) rfl rfl Try.func11 (by kernel_rfl) rfl #[.agg #[.int .i64 a0_0, .int .i64 a0_1, .int .i64 a0_2, .int .i64 a0_3], .bool a1, .agg #[.int .i64 x2_5, .int .i64 (wrap64 (x15_5 + 1)), .int .i64 (rd l4 x68_5), .int .i64 0]] rfl (by (try simp only [List.map_toArray, List.map_cons, List.map_nil]); first | done | rfl | (simp only [List.length_drop, List.length_take]; rfl)) ?_; (with_reducible refine (spec_PaceNext.calls k5 a0_0 a0_1 a0_2 a0_3 a1 x2_5 (wrap64 (x15_5 + 1)) (rd l4 x68_5) 0 t135 _ A50.out).mono ?_); rintro e w57 ⟨rfl, hb⟩; refine ⟨_, rfl, ?_⟩; have n0_ := Aside0.mk (Kd.R_below HO_13.out hb); have n1_ := Aside0.mk (blk_below (g := gb122) (o := .cells #[.int .i64 a0_0, .int .i64 a0_1, .int .i64 a0_2, .int .i64 a0_3] 26 (0, 0)) BK122.out hb); have n2_ := Aside0.mk (blk_below (g := gb131) (o := .cells #[.int .i64 x2_5, .int .i64 (wrap64 (x15_5 + 1)), .int .i64 (rd l4 x68_5), .int .i64 0] 23 (0, 0)) BK131.out hb); have n3_ := Aside0.mk (below_step (by repeat (first | (with_reducible first | exact HB.out | apply below_alloc | apply pw_below_drewN | apply below_drew1 | refine below_set ?_ GE122.out | refine below_set ?_ GE131.out) | exact HB.out)) hb); clear HO_13; clear BK122; clear BK131; clear HB; have HO_13 := n0_; have BK122 := n1_; have BK131 := n2_; have HB := n3_; clear n0_ n1_ n2_ n3_; (try clear hb); (try clear hb2); (try clear hk); (try clear hi); obtain ⟨Ao58, co58, eo58⟩ := Kd.R_slice HO_13.out; subst eo58; have p136 : 0 ≤ (x68_5 : Int) := of_decide_eq_true (by first | (with_reducible assumption) | assumption); have q136 : x68_5 < (t125.length : Int) := of_decide_eq_true (by first | (with_reducible assumption) | assumption); obtain ⟨ad136, e136, hx136_0⟩ := Kd.at_int (Kd.R_reads' HO_13.out).2.2 x68_5 p136 q136; cases e136; replace p136 := eq_true p136; replace q136 := eq_true q136))
                                              go_roundg k5
                                              case measure => have := HJ5.out; have := HJ9.out; have := HK3.out; have := HJ19.out; have := HK5.out; omega
                                              case rel => exact ⟨(t135), (wrap64 (x15_5 + 1)), (wrap64 (x68_5 + 1)), (by first | rfl | (simp; done) | (simp [*]; done)), (by first | rfl | (simp; done) | (simp [*]; done)), (by first | rfl | (simp; done) | (simp [*]; done)), H', ⟨by have := HJ5.out; have := HJ9.out; have := HK3.out; have := HJ19.out; have := HK5.out; omega⟩, ⟨by (with_reducible repeat (first | apply Kd.R_alloc | apply Kd.R_drewN | apply Kd.R_drew)); exact HO_13.out⟩, ⟨by (with_reducible repeat (first | refine blk_drewN ?_ _ | refine blk_drew ?_ | refine blk_alloc ?_ _)); exact BK122.out⟩, ⟨by repeat (first | (with_reducible first | exact HB.out | apply below_alloc | apply pw_below_drewN | apply below_drew1 | refine below_set ?_ GE122.out | refine below_set ?_ GE131.out) | exact HB.out)⟩⟩
                                            · rw [if_neg c52] at H
                                              have c52b0 : ((rd t125 x68_5) == t135) = false := beq_eq_false_iff_ne.mpr c52
                                              have c52b1 : ((rd t125 x68_5) != t135) = true := bne_iff_ne.mpr c52
                                              obtain rfl := Option.some.inj H
                                              have p130 : 0 ≤ (x68_5 : Int) := of_decide_eq_true (by first | (with_reducible assumption) | assumption)
                                              have q130 : x68_5 < (l3.length : Int) := of_decide_eq_true (by first | (with_reducible assumption) | assumption)
                                              obtain ⟨ad130, e130, hx130_0⟩ := Kd.at_bool HR3.out x68_5 p130 q130
                                              (try rw [← Nbq32.out] at hx130_0)
                                              cases e130
                                              replace hx130_0 := (HB.out.cell (World.block_lt_of_cell? w _ hx130_0)).trans hx130_0
                                              replace p130 := eq_true p130
                                              replace q130 := eq_true q130
                                              go_upto_region 26 with (first | ((with_reducible refine gate_dst (N := 18) rfl ?_); (try (refine gate_guard (by rfl) ?_; dsimp only)); refine box_event ?hg (N := 18) ?hd (cs := #[.int .i64 0, .int .i64 0, .int .i64 0, .int .i64 0]) (t := 23) ?hr ?_; (case hd => rfl); (case hg => rfl); (case hr => first | (go_simp; done) | (go_simp; rfl)); intro gb131 hg w59 hbox hb; have n0_ := Aside0.mk (Kd.R_below (by (with_reducible repeat (first | apply Kd.R_alloc | apply Kd.R_drewN | apply Kd.R_drew)); exact HO_13.out) hb); have n1_ := Aside0.mk (blk_below (g := gb122) (o := .cells #[.int .i64 a0_0, .int .i64 a0_1, .int .i64 a0_2, .int .i64 a0_3] 26 (0, 0)) (by (with_reducible repeat (first | refine blk_drewN ?_ _ | refine blk_drew ?_ | refine blk_alloc ?_ _)); exact BK122.out) hb); have n2_ := Aside0.mk (below_step (by repeat (first | (with_reducible first | exact HB.out | apply below_alloc | apply pw_below_drewN | apply below_drew1 | refine below_set ?_ GE122.out) | exact HB.out)) hb); have n3_ := Aside0.mk (hbox); have n4_ := Aside0.mk ((by rw [hg]; exact (below_size (by repeat (first | (with_reducible first | exact HB.out | apply below_alloc | apply pw_below_drewN | apply below_drew1 | refine below_set ?_ GE122.out) | exact HB.out))) : w.heap.size ≤ gb131)); have n5_ := Aside0.mk ((by rw [hg]; exact (below_size (by repeat (first | (with_reducible first | exact HB.out | apply below_alloc | apply pw_below_drewN | apply below_drew1 | refine below_set ?_ GE122.out) | exact HB.out))) : w.heap.size ≤ gb131)); have n6_ := Aside0.mk ((by rw [hg]; exact Nat.ne_of_lt (blk_lt (g := gb122) (o := .cells #[.int .i64 a0_0, .int .i64 a0_1, .int .i64 a0_2, .int .i64 a0_3] 26 (0, 0)) (by (with_reducible repeat (first | refine blk_drewN ?_ _ | refine blk_drew ?_ | refine blk_alloc ?_ _)); exact BK122.out)) : gb122 ≠ gb131)); have n7_ := Aside0.mk ((by rw [hg]; exact Nat.ne_of_gt (blk_lt (g := gb122) (o := .cells #[.int .i64 a0_0, .int .i64 a0_1, .int .i64 a0_2, .int .i64 a0_3] 26 (0, 0)) (by (with_reducible repeat (first | refine blk_drewN ?_ _ | refine blk_drew ?_ | refine blk_alloc ?_ _)); exact BK122.out)) : gb131 ≠ gb122)); clear HO_13; clear BK122; clear HB; have HO_13 := n0_; have BK122 := n1_; have HB := n2_; have BK131 := n3_; have GW131 := n4_; have GE131 := n5_; have NB122_131 := n6_; have NB131_122 := n7_; clear n0_ n1_ n2_ n3_ n4_ n5_ n6_ n7_; clear hb hbox hg; have hnb60 := NB131_122.out; have hnc60 := NB122_131.out; have hcz61_0 : w59.cell? ⟨gb131, 0, none⟩ = some (.int .i64 0) := (blk_cell BK131.out 0).trans rfl; have hcz61_1 : w59.cell? ⟨gb131, 1, none⟩ = some (.int .i64 0) := (blk_cell BK131.out 1).trans rfl; have hcz61_2 : w59.cell? ⟨gb131, 2, none⟩ = some (.int .i64 0) := (blk_cell BK131.out 2).trans rfl; have hcz61_3 : w59.cell? ⟨gb131, 3, none⟩ = some (.int .i64 0) := (blk_cell BK131.out 3).trans rfl; have hfz61_0 := blk_frozen BK131.out 0; have hfz61_1 := blk_frozen BK131.out 1; have hfz61_2 := blk_frozen BK131.out 2; have hfz61_3 := blk_frozen BK131.out 3; have p134 : 0 ≤ (x68_5 : Int) := of_decide_eq_true (by first | (with_reducible assumption) | assumption); have q134 : x68_5 < (l4.length : Int) := of_decide_eq_true (by first | (with_reducible assumption) | assumption); obtain ⟨ad134, e134, hx134_0⟩ := Kd.at_int HR4.out x68_5 p134 q134; cases e134; have hn134_0 : ad134.block ≠ gb131 := Nat.ne_of_lt (Nat.lt_of_lt_of_le (by have := World.block_lt_of_cell? _ _ hx134_0; first | rwa [add_block] at this | exact this) GW131.out); have hn134_1 : ad134.block ≠ gb131 := Nat.ne_of_lt (Nat.lt_of_lt_of_le (by have := World.block_lt_of_cell? _ _ hx134_0; first | rwa [add_block] at this | exact this) GW131.out); have hn134_2 : ad134.block ≠ gb131 := Nat.ne_of_lt (Nat.lt_of_lt_of_le (by have := World.block_lt_of_cell? _ _ hx134_0; first | rwa [add_block] at this | exact this) GW131.out); have hn134_3 : ad134.block ≠ gb131 := Nat.ne_of_lt (Nat.lt_of_lt_of_le (by have := World.block_lt_of_cell? _ _ hx134_0; first | rwa [add_block] at this | exact this) GW131.out); replace hx134_0 := (HB.out.cell (World.block_lt_of_cell? w _ hx134_0)).trans hx134_0; replace hx134_0 := (cell_far (p := ⟨gb131, 0, none⟩) (by first | (rw [add_block]; exact hn134_0) | (show (Addr.add _ _).block ≠ _; rw [add_block]; exact hn134_0) | exact hn134_0) (.int .i64 x2_5)).trans hx134_0; replace hx134_0 := (cell_far (p := ⟨gb131, 1, none⟩) (by first | (rw [add_block]; exact hn134_1) | (show (Addr.add _ _).block ≠ _; rw [add_block]; exact hn134_1) | exact hn134_1) (.int .i64 0)).trans hx134_0; replace hx134_0 := (cell_far (p := ⟨gb131, 2, none⟩) (by first | (rw [add_block]; exact hn134_2) | (show (Addr.add _ _).block ≠ _; rw [add_block]; exact hn134_2) | exact hn134_2) (.int .i64 (-1))).trans hx134_0; replace hx134_0 := (cell_far (p := ⟨gb131, 3, none⟩) (by first | (rw [add_block]; exact hn134_3) | (show (Addr.add _ _).block ≠ _; rw [add_block]; exact hn134_3) | exact hn134_3) (.int .i64 0)).trans hx134_0; clear hn134_0; clear hn134_1; clear hn134_2; clear hn134_3; replace p134 := eq_true p134; replace q134 := eq_true q134; have hcz62_0 : w59.cell? ⟨gb122, 0, none⟩ = some (.int .i64 a0_0) := (blk_cell BK122.out 0).trans rfl; have hcz62_1 : w59.cell? ⟨gb122, 1, none⟩ = some (.int .i64 a0_1) := (blk_cell BK122.out 1).trans rfl; have hcz62_2 : w59.cell? ⟨gb122, 2, none⟩ = some (.int .i64 a0_2) := (blk_cell BK122.out 2).trans rfl; have hcz62_3 : w59.cell? ⟨gb122, 3, none⟩ = some (.int .i64 a0_3) := (blk_cell BK122.out 3).trans rfl; have hfz62_0 := blk_frozen BK122.out 0; have hfz62_1 := blk_frozen BK122.out 1; have hfz62_2 := blk_frozen BK122.out 2; have hfz62_3 := blk_frozen BK122.out 3))
                                              refine at_w (F := fun W_ => (Kd.int .i64).R 3 W_ w.heap.size (fun _ => True) v126 t125 ∧ W_.heap[gb122]? = some (Obj.cells #[.int .i64 a0_0, .int .i64 a0_1, .int .i64 a0_2, .int .i64 a0_3] 26 (0, 0)) ∧ W_.heap[gb131]? = some (Obj.cells #[.int .i64 x2_5, .int .i64 (wrap64 (x15_5 + 1)), .int .i64 (rd l4 x68_5), .int .i64 0] 23 (0, 0)) ∧ Below w.heap.size w W_) ⟨(by (with_reducible repeat (first | apply Kd.R_alloc | apply Kd.R_drewN | apply Kd.R_drew)); exact (Kd.R_mono (Kd.R_far (p := ⟨gb131, 1, none⟩) (Kd.R_far (p := ⟨gb131, 2, none⟩) (Kd.R_far (p := ⟨gb131, 3, none⟩) (Kd.R_far (p := ⟨gb131, 2, none⟩) (Kd.R_far (p := ⟨gb131, 1, none⟩) (Kd.R_far (p := ⟨gb131, 0, none⟩) (Kd.R_types HO_13.out BK131.out (by decide)) (fun _ hk => hk.2) (.int .i64 x2_5)) (fun _ hk => hk.2) (.int .i64 0)) (fun _ hk => hk.2) (.int .i64 (-1))) (fun _ hk => hk.2) (.int .i64 0)) (fun _ hk => hk.2) (.int .i64 (rd l4 x68_5))) (fun _ hk => hk.2) (.int .i64 (wrap64 (x15_5 + 1)))) (fun _ h_ => h_.1))), (by (with_reducible repeat (first | refine blk_drewN ?_ _ | refine blk_drew ?_ | refine blk_alloc ?_ _)); refine blk_far ?_ NB122_131.out _; (with_reducible repeat (first | refine blk_drewN ?_ _ | refine blk_drew ?_ | refine blk_alloc ?_ _)); refine blk_far ?_ NB122_131.out _; (with_reducible repeat (first | refine blk_drewN ?_ _ | refine blk_drew ?_ | refine blk_alloc ?_ _)); refine blk_far ?_ NB122_131.out _; (with_reducible repeat (first | refine blk_drewN ?_ _ | refine blk_drew ?_ | refine blk_alloc ?_ _)); refine blk_far ?_ NB122_131.out _; (with_reducible repeat (first | refine blk_drewN ?_ _ | refine blk_drew ?_ | refine blk_alloc ?_ _)); refine blk_far ?_ NB122_131.out _; (with_reducible repeat (first | refine blk_drewN ?_ _ | refine blk_drew ?_ | refine blk_alloc ?_ _)); refine blk_far ?_ NB122_131.out _; (with_reducible repeat (first | refine blk_drewN ?_ _ | refine blk_drew ?_ | refine blk_alloc ?_ _)); exact BK122.out), (by (with_reducible repeat (first | refine blk_drewN ?_ _ | refine blk_drew ?_ | refine blk_alloc ?_ _)); refine blk_put (cs := #[.int .i64 x2_5, .int .i64 0, .int .i64 (rd l4 x68_5), .int .i64 0]) ?_ 1 _ rfl; (with_reducible repeat (first | refine blk_drewN ?_ _ | refine blk_drew ?_ | refine blk_alloc ?_ _)); refine blk_put (cs := #[.int .i64 x2_5, .int .i64 0, .int .i64 (-1), .int .i64 0]) ?_ 2 _ rfl; (with_reducible repeat (first | refine blk_drewN ?_ _ | refine blk_drew ?_ | refine blk_alloc ?_ _)); refine blk_put (cs := #[.int .i64 x2_5, .int .i64 0, .int .i64 (-1), .int .i64 0]) ?_ 3 _ rfl; (with_reducible repeat (first | refine blk_drewN ?_ _ | refine blk_drew ?_ | refine blk_alloc ?_ _)); refine blk_put (cs := #[.int .i64 x2_5, .int .i64 0, .int .i64 0, .int .i64 0]) ?_ 2 _ rfl; (with_reducible repeat (first | refine blk_drewN ?_ _ | refine blk_drew ?_ | refine blk_alloc ?_ _)); refine blk_put (cs := #[.int .i64 x2_5, .int .i64 0, .int .i64 0, .int .i64 0]) ?_ 1 _ rfl; (with_reducible repeat (first | refine blk_drewN ?_ _ | refine blk_drew ?_ | refine blk_alloc ?_ _)); refine blk_put (cs := #[.int .i64 0, .int .i64 0, .int .i64 0, .int .i64 0]) ?_ 0 _ rfl; (with_reducible repeat (first | refine blk_drewN ?_ _ | refine blk_drew ?_ | refine blk_alloc ?_ _)); exact BK131.out), (by repeat (first | (with_reducible first | exact HB.out | apply below_alloc | apply pw_below_drewN | apply below_drew1 | refine below_set ?_ GE122.out | refine below_set ?_ GE131.out) | exact HB.out))⟩ (fun W_ hF_ => ?_)
                                              clear HO_13 BK122 BK131 HB
                                              obtain ⟨f1_, f2_, f3_, f4_⟩ := hF_
                                              have HO_13 := Aside0.mk f1_; have BK122 := Aside0.mk f2_; have BK131 := Aside0.mk f3_; have HB := Aside0.mk f4_; clear f1_ f2_ f3_ f4_
                                              have hla_0 : World.cell? _ ⟨gb122, 0, none⟩ = some (.int .i64 a0_0) := (blk_cell BK122.out 0).trans rfl
                                              have hla_1 : World.cell? _ ⟨gb122, 1, none⟩ = some (.int .i64 a0_1) := (blk_cell BK122.out 1).trans rfl
                                              have hla_2 : World.cell? _ ⟨gb122, 2, none⟩ = some (.int .i64 a0_2) := (blk_cell BK122.out 2).trans rfl
                                              have hla_3 : World.cell? _ ⟨gb122, 3, none⟩ = some (.int .i64 a0_3) := (blk_cell BK122.out 3).trans rfl
                                              have hlb_0 : World.cell? _ ⟨gb131, 0, none⟩ = some (.int .i64 x2_5) := (blk_cell BK131.out 0).trans rfl
                                              have hlb_1 : World.cell? _ ⟨gb131, 1, none⟩ = some (.int .i64 (wrap64 (x15_5 + 1))) := (blk_cell BK131.out 1).trans rfl
                                              have hlb_2 : World.cell? _ ⟨gb131, 2, none⟩ = some (.int .i64 (rd l4 x68_5)) := (blk_cell BK131.out 2).trans rfl
                                              have hlb_3 : World.cell? _ ⟨gb131, 3, none⟩ = some (.int .i64 0) := (blk_cell BK131.out 3).trans rfl
                                              go_wp2_with (first | ((with_reducible refine gate_callee (f := 11) rfl ?_); refine goesL_ (some 88) rfl rfl Try.func11 (by kernel_rfl) rfl #[.agg #[.int .i64 a0_0, .int .i64 a0_1, .int .i64 a0_2, .int .i64 a0_3], .bool a1, .agg #[.int .i64 x2_5, .int .i64 (wrap64 (x15_5 + 1)), .int .i64 (rd l4 x68_5), .int .i64 0]] rfl (by (try simp only [List.map_toArray, List.map_cons, List.map_nil]); first | done | rfl | (simp only [List.length_drop, List.length_take]; rfl)) ?_; (with_reducible refine (spec_PaceNext.calls k5 a0_0 a0_1 a0_2 a0_3 a1 x2_5 (wrap64 (x15_5 + 1)) (rd l4 x68_5) 0 t135 _ A50.out).mono ?_); rintro e w63 ⟨rfl, hb⟩; refine ⟨_, rfl, ?_⟩; have n0_ := Aside0.mk (Kd.R_below HO_13.out hb); have n1_ := Aside0.mk (blk_below (g := gb122) (o := .cells #[.int .i64 a0_0, .int .i64 a0_1, .int .i64 a0_2, .int .i64 a0_3] 26 (0, 0)) BK122.out hb); have n2_ := Aside0.mk (blk_below (g := gb131) (o := .cells #[.int .i64 x2_5, .int .i64 (wrap64 (x15_5 + 1)), .int .i64 (rd l4 x68_5), .int .i64 0] 23 (0, 0)) BK131.out hb); have n3_ := Aside0.mk (below_step (by repeat (first | (with_reducible first | exact HB.out | apply below_alloc | apply pw_below_drewN | apply below_drew1 | refine below_set ?_ GE122.out | refine below_set ?_ GE131.out) | exact HB.out)) hb); clear HO_13; clear BK122; clear BK131; clear HB; have HO_13 := n0_; have BK122 := n1_; have BK131 := n2_; have HB := n3_; clear n0_ n1_ n2_ n3_; (try clear hb); (try clear hb2); (try clear hk); (try clear hi); obtain ⟨Ao64, co64, eo64⟩ := Kd.R_slice HO_13.out; subst eo64; have p136 : 0 ≤ (x68_5 : Int) := of_decide_eq_true (by first | (with_reducible assumption) | assumption); have q136 : x68_5 < (t125.length : Int) := of_decide_eq_true (by first | (with_reducible assumption) | assumption); obtain ⟨ad136, e136, hx136_0⟩ := Kd.at_int (Kd.R_reads' HO_13.out).2.2 x68_5 p136 q136; cases e136; replace p136 := eq_true p136; replace q136 := eq_true q136))
                                              go_ret
                                              exact ⟨by first | rfl | (simp [errW_none, errW_some] <;> rfl) | (simp [*, errW_none, errW_some] <;> rfl), by repeat (first | (with_reducible first | exact HB.out | apply below_alloc | apply pw_below_drewN | apply below_drew1 | refine below_set ?_ GE122.out | refine below_set ?_ GE131.out) | exact HB.out)⟩
                                          · rw [if_neg c51] at H
                                            exact absurd H (by simp)
                                        · rw [if_neg c49] at H
                                          exact absurd H (by simp)
                                    · rw [if_neg c31] at H
                                      exact absurd H (by simp)
                                  · rw [if_neg c30] at H
                                    exact absurd H (by simp)
                                · rw [if_neg c29] at H
                                  have c29b0 : decide (x68_5 < (l3.length : Int)) = false := decide_eq_false c29
                                  clear c29
                                  obtain rfl := Option.some.inj H
                                  go_wp2
                                  go_ret
                                  exact ⟨by first | rfl | (simp [errW_none, errW_some] <;> rfl) | (simp [*, errW_none, errW_some] <;> rfl), by repeat (first | (with_reducible first | exact HB.out | apply below_alloc | apply pw_below_drewN | apply below_drew1 | refine below_set ?_ GE122.out) | exact HB.out)⟩
                    · replace c18 := Bool.eq_false_iff.mpr c18
                      subst c18
                      have H1 : (some true) = some r := by rw [if_neg (show ¬ (false = true) by decide)] at H; exact H
                      clear H
                      have H := H1
                      clear H1
                      obtain rfl := Option.some.inj H
                      have hcz65_0 : wr.cell? ⟨gb122, 0, none⟩ = some (.int .i64 a0_0) := (blk_cell BK122.out 0).trans rfl
                      have hcz65_1 : wr.cell? ⟨gb122, 1, none⟩ = some (.int .i64 a0_1) := (blk_cell BK122.out 1).trans rfl
                      have hcz65_2 : wr.cell? ⟨gb122, 2, none⟩ = some (.int .i64 a0_2) := (blk_cell BK122.out 2).trans rfl
                      have hcz65_3 : wr.cell? ⟨gb122, 3, none⟩ = some (.int .i64 a0_3) := (blk_cell BK122.out 3).trans rfl
                      have hfz65_0 := blk_frozen BK122.out 0
                      have hfz65_1 := blk_frozen BK122.out 1
                      have hfz65_2 := blk_frozen BK122.out 2
                      have hfz65_3 := blk_frozen BK122.out 3
                      go_wp2_with (first | ((with_reducible refine gate_callee (f := 7) rfl ?_); refine goesL_ (some 49) rfl rfl Try.func7 (by kernel_rfl) rfl #[.agg #[.int .i64 a0_0, .int .i64 a0_1, .int .i64 a0_2, .int .i64 a0_3], .agg #[.int .i64 a2, .int .i64 0, .int .i64 0, .int .i64 0]] rfl (by (try simp only [List.map_toArray, List.map_cons, List.map_nil]); first | done | rfl | (simp only [List.length_drop, List.length_take]; rfl)) ?_; (with_reducible refine (spec_PaceIn.calls a0_0 a0_1 a0_2 a0_3 a2 0 0 0 false _ A17.out).mono ?_); rintro e w66 ⟨rfl, hb⟩; refine ⟨_, rfl, ?_⟩; have n0_ := Aside0.mk (blk_below (g := gb122) (o := .cells #[.int .i64 a0_0, .int .i64 a0_1, .int .i64 a0_2, .int .i64 a0_3] 26 (0, 0)) (by (with_reducible repeat (first | refine blk_drewN ?_ _ | refine blk_drew ?_ | refine blk_alloc ?_ _)); exact BK122.out) hb); have n1_ := Aside0.mk (below_step (by repeat (first | (with_reducible first | exact HB.out | apply below_alloc | apply pw_below_drewN | apply below_drew1 | refine below_set ?_ GE122.out) | exact HB.out)) hb); clear BK122; clear HB; have BK122 := n0_; have HB := n1_; clear n0_ n1_; (try clear hb); (try clear hb2); (try clear hk); (try clear hi)))
                      go_ret
                      exact ⟨by first | rfl | (simp [errW_none, errW_some] <;> rfl) | (simp [*, errW_none, errW_some] <;> rfl), by repeat (first | (with_reducible first | exact HB.out | apply below_alloc | apply pw_below_drewN | apply below_drew1 | refine below_set ?_ GE122.out) | exact HB.out)⟩
def laws_FnPaceRuns.Pure : Prop := ∀ (a0_0 : Int) (a0_1 : Int) (a0_2 : Int) (a0_3 : Int) (a1 : Bool) (a2 : Int) (l3 : List Bool) (l4 : List Int), (((Lit.int .i64 a0_0).wf = true) ∧ (((Lit.int .i64 a0_1).wf = true) ∧ (((Lit.int .i64 a0_2).wf = true) ∧ ((Lit.int .i64 a0_3).wf = true)))) → (Lit.int .i64 a2).wf = true → l3.length ≤ maxLen → (∀ y ∈ l3, True) → l4.length ≤ maxLen → (∀ y ∈ l4, (Lit.int .i64 y).wf = true) → ∃ k, laws_FnPaceRuns.f k a0_0 a0_1 a0_2 a0_3 a1 a2 l3 l4 = some true
theorem laws_FnPaceRuns.walk (P : laws_FnPaceRuns.Pure) (w : World) (a0_0 : Int) (a0_1 : Int) (a0_2 : Int) (a0_3 : Int) (a1 : Bool) (a2 : Int) (A3 : Option Addr) (c3 : Nat) (l3 : List Bool) (hr3 : Kd.C Kd.bool w A3 l3.length l3) (hc3 : l3.length ≤ c3) (A4 : Option Addr) (c4 : Nat) (l4 : List Int) (hr4 : Kd.C (Kd.int .i64) w A4 l4.length l4) (hc4 : l4.length ≤ c4) (b0_0 : (((Lit.int .i64 a0_0).wf = true) ∧ (((Lit.int .i64 a0_1).wf = true) ∧ (((Lit.int .i64 a0_2).wf = true) ∧ ((Lit.int .i64 a0_3).wf = true))))) (b2_0 : (Lit.int .i64 a2).wf = true) (b3_0 : l3.length ≤ maxLen) (b3_1 : (∀ y ∈ l3, True)) (b4_0 : l4.length ≤ maxLen) (b4_1 : (∀ y ∈ l4, (Lit.int .i64 y).wf = true)) :
    Calls Try.prog 6 #[.agg #[.int .i64 a0_0, .int .i64 a0_1, .int .i64 a0_2, .int .i64 a0_3], .bool a1, .int .i64 a2, .slice A3 l3.length c3, .slice A4 l4.length c4] w fun e w' => e = .returned (.bool true) ∧ Below w.heap.size w w' := by
  obtain ⟨k, h⟩ := P a0_0 a0_1 a0_2 a0_3 a1 a2 l3 l4 b0_0 b2_0 b3_0 b3_1 b4_0 b4_1
  refine (laws_FnPaceRuns.calls k a0_0 a0_1 a0_2 a0_3 a1 a2 A3 c3 l3 A4 c4 l4 true w    hr3 hc3 hr4 hc4 h).mono ?_
  rintro e w' ⟨rfl, hd⟩
  exact ⟨rfl, hd⟩

end Go.Proofs.Ytgdjplpbpknfmaa.PR
