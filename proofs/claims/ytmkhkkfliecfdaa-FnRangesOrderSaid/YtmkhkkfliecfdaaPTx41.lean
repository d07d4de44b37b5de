-- Written by a program of this session. -- slim
import Derived.Test.YtmkhkkfliecfdaaPTx20
import Derived.Test.YtmkhkkfliecfdaaPTx39
namespace Go.Proofs.Ytmkhkkfliecfdaa.PT
open Go.RowKit Go.Proofs.YtmkhkkfliecfdaaW.PrintWords Go.Proofs.YtmkhkkfliecfdaaW.PrintLast Go.Proofs.Ytmkhkkfliecfdaa.Given Go.Proofs.Ytmkhkkfliecfdaa.Mm
attribute [local go_sem] mx_go mn_go
set_option linter.unusedVariables false
set_option linter.unusedSimpArgs false

attribute [local go_sem high] idx70
/-! ### laws_FnRangesOrder: function 8 -/
mutual
def laws_FnRangesOrder.j0 : Nat → List (S24) → List Int → Bool → Option (Bool)
 | 0, _, _, _ => none
 | k + 1, x0, x1, x17 => if x17 = true then (some true) else ((spec_RangesIn.f k x0).bind fun t398 => (if t398 = true then (laws_FnRangesOrder.j1 k x0 x1 (decide ((x1.length : Int) > 60))) else (laws_FnRangesOrder.j1 k x0 x1 true)))
def laws_FnRangesOrder.j1 : Nat → List (S24) → List Int → Bool → Option (Bool)
 | 0, _, _, _ => none
 | k + 1, x0, x1, x25 => if x25 = true then (some true) else ((laws_rangeAwake.f k).bind fun t399 => (if t399 = true then ((some (([] : List (S24)) : List (S24))).bind fun y400 => (if y400.length + x0.length < 8796093022208 then (laws_FnRangesOrder.l0 k x0 x1 (y400 ++ x0) x1 (x1.length : Int) 0) else (none))) else (some false)))
def laws_FnRangesOrder.l0 : Nat → List (S24) → List Int → List (S24) → List Int → Int → Int → Option (Bool)
 | 0, _, _, _, _, _, _ => none
 | k + 1, x0, x1, x5, x31, x32, x33 => if x33 < x32 then (if 0 ≤ x33 then (if x33 < (x31.length : Int) then (if (x5.length : Int) > 1 then (if (x5.length : Int) = 0 then (none) else (if 0 ≤ (Int.tmod (wrap64 (rd x31 x33)) (x5.length : Int)) then (if (Int.tmod (wrap64 (rd x31 x33)) (x5.length : Int)) < (x5.length : Int) then (if 0 ≤ (Int.tmod x33 (x5.length : Int)) then (if (Int.tmod x33 (x5.length : Int)) < (x5.length : Int) then (laws_FnRangesOrder.l0 k x0 x1 ((x5.set ((Int.tmod x33 (x5.length : Int)) : Int).toNat (⟨(rd_T24 x5 (Int.tmod (wrap64 (rd x31 x33)) (x5.length : Int))).f0, (rd_T24 x5 (Int.tmod (wrap64 (rd x31 x33)) (x5.length : Int))).f1⟩ : S24)).set ((Int.tmod (wrap64 (rd x31 x33)) (x5.length : Int)) : Int).toNat (⟨(rd_T24 x5 (Int.tmod x33 (x5.length : Int))).f0, (rd_T24 x5 (Int.tmod x33 (x5.length : Int))).f1⟩ : S24)) x31 x32 (wrap64 (x33 + 1))) else (none)) else (none)) else (none)) else (none))) else (laws_FnRangesOrder.l0 k x0 x1 x5 x31 x32 (wrap64 (x33 + 1)))) else (none)) else (none)) else (if (x0.length : Int) > 0 then (laws_FnRangesOrder.j3 k x0 x1 x5 (decide ((x1.length : Int) > 0))) else (laws_FnRangesOrder.j3 k x0 x1 x5 false))
def laws_FnRangesOrder.j3 : Nat → List (S24) → List Int → List (S24) → Bool → Option (Bool)
 | 0, _, _, _, _ => none
 | k + 1, x0, x1, x5, x72 => if x72 = true then (if 0 < (x1.length : Int) then (if (x0.length : Int) = 0 then (none) else (if 0 ≤ (Int.tmod (wrap64 (rd x1 0)) (x0.length : Int)) then (if (Int.tmod (wrap64 (rd x1 0)) (x0.length : Int)) < (x0.length : Int) then (if x5.length < 8796093022208 then (laws_FnRangesOrder.j4 k x0 (x5 ++ [(⟨(rd_T24 x0 (Int.tmod (wrap64 (rd x1 0)) (x0.length : Int))).f0, (rd_T24 x0 (Int.tmod (wrap64 (rd x1 0)) (x0.length : Int))).f1⟩ : S24)])) else (none)) else (none)) else (none))) else (none)) else (laws_FnRangesOrder.j4 k x0 x5)
def laws_FnRangesOrder.j4 : Nat → List (S24) → List (S24) → Option (Bool)
 | 0, _, _ => none
 | k + 1, x0, x5 => (impl_RangesOf.f k x0).bind fun t416 => ((impl_RangesOf.f k x5).bind fun t419 => ((spec_RangesSame.f k t416 t419).bind fun t422 => (if t422 = true then ((impl_RangesEqual.f x0 x5).bind fun t423 => (some t423)) else (some false))))
end
def laws_FnRangesOrder.f (k : Nat) (l0 : List (S24)) (l1 : List Int) : Option (Bool) := if (l0.length : Int) > 2147483647 then (laws_FnRangesOrder.j0 k l0 l1 true) else (laws_FnRangesOrder.j0 k l0 l1 (decide ((l1.length : Int) > 2147483647)))
theorem laws_FnRangesOrder.mono_l : ∀ k, (∀ y0 y1 y2, LeO (laws_FnRangesOrder.j0 k y0 y1 y2) (laws_FnRangesOrder.j0 (k + 1) y0 y1 y2)) ∧ (∀ y0 y1 y2, LeO (laws_FnRangesOrder.j1 k y0 y1 y2) (laws_FnRangesOrder.j1 (k + 1) y0 y1 y2)) ∧ (∀ y0 y1 y2 y3 y4 y5, LeO (laws_FnRangesOrder.l0 k y0 y1 y2 y3 y4 y5) (laws_FnRangesOrder.l0 (k + 1) y0 y1 y2 y3 y4 y5)) ∧ (∀ y0 y1 y2 y3, LeO (laws_FnRangesOrder.j3 k y0 y1 y2 y3) (laws_FnRangesOrder.j3 (k + 1) y0 y1 y2 y3)) ∧ (∀ y0 y1, LeO (laws_FnRangesOrder.j4 k y0 y1) (laws_FnRangesOrder.j4 (k + 1) y0 y1))
 | 0 => ⟨fun _ _ _ r h => by simp [laws_FnRangesOrder.j0] at h, fun _ _ _ r h => by simp [laws_FnRangesOrder.j1] at h, fun _ _ _ _ _ _ r h => by simp [laws_FnRangesOrder.l0] at h, fun _ _ _ _ r h => by simp [laws_FnRangesOrder.j3] at h, fun _ _ r h => by simp [laws_FnRangesOrder.j4] at h⟩
 | k + 1 => by
  obtain ⟨ih0, ih1, ih2, ih3, ih4⟩ := laws_FnRangesOrder.mono_l k
  refine ⟨?_, ?_, ?_, ?_, ?_⟩
  ·intro y0 y1 y2
   unfold laws_FnRangesOrder.j0
   repeat' first
   | (with_reducible exact ih0 _ _ _)
   | (with_reducible exact ih1 _ _ _)
   | (with_reducible exact ih2 _ _ _ _ _ _)
   | (with_reducible exact ih3 _ _ _ _)
   | (with_reducible exact ih4 _ _)
   | (with_reducible exact impl_RangesOf.mono _ _)
   | (with_reducible exact laws_rangeAwake.mono _)
   | (with_reducible exact spec_RangesIn.mono _ _)
   | (with_reducible exact spec_RangesSame.mono _ _ _)
   | (with_reducible exact LeO.refl _)
   | (with_reducible exact LeO.none _)
   | (with_reducible refine LeO.ite ?_ ?_)
   | (with_reducible refine LeO.bind ?_ (fun _ => ?_))
   | exact ih0 _ _ _
   | exact ih1 _ _ _
   | exact ih2 _ _ _ _ _ _
   | exact ih3 _ _ _ _
   | exact ih4 _ _
   | exact impl_RangesOf.mono _ _
   | exact laws_rangeAwake.mono _
   | exact spec_RangesIn.mono _ _
   | exact spec_RangesSame.mono _ _ _
   | exact LeO.none _
   | refine LeO.ite ?_ ?_
   | refine LeO.bind ?_ (fun _ => ?_)
  ·intro y0 y1 y2
   unfold laws_FnRangesOrder.j1
   repeat' first
   | (with_reducible exact ih0 _ _ _)
   | (with_reducible exact ih1 _ _ _)
   | (with_reducible exact ih2 _ _ _ _ _ _)
   | (with_reducible exact ih3 _ _ _ _)
   | (with_reducible exact ih4 _ _)
   | (with_reducible exact impl_RangesOf.mono _ _)
   | (with_reducible exact laws_rangeAwake.mono _)
   | (with_reducible exact spec_RangesIn.mono _ _)
   | (with_reducible exact spec_RangesSame.mono _ _ _)
   | (with_reducible exact LeO.refl _)
   | (with_reducible exact LeO.none _)
   | (with_reducible refine LeO.ite ?_ ?_)
   | (with_reducible refine LeO.bind ?_ (fun _ => ?_))
   | exact ih0 _ _ _
   | exact ih1 _ _ _
   | exact ih2 _ _ _ _ _ _
   | exact ih3 _ _ _ _
   | exact ih4 _ _
   | exact impl_RangesOf.mono _ _
   | exact laws_rangeAwake.mono _
   | exact spec_RangesIn.mono _ _
   | exact spec_RangesSame.mono _ _ _
   | exact LeO.none _
   | refine LeO.ite ?_ ?_
   | refine LeO.bind ?_ (fun _ => ?_)
  ·intro y0 y1 y2 y3 y4 y5
   unfold laws_FnRangesOrder.l0
   repeat' first
   | (with_reducible exact ih0 _ _ _)
   | (with_reducible exact ih1 _ _ _)
   | (with_reducible exact ih2 _ _ _ _ _ _)
   | (with_reducible exact ih3 _ _ _ _)
   | (with_reducible exact ih4 _ _)
   | (with_reducible exact impl_RangesOf.mono _ _)
   | (with_reducible exact laws_rangeAwake.mono _)
   | (with_reducible exact spec_RangesIn.mono _ _)
   | (with_reducible exact spec_RangesSame.mono _ _ _)
   | (with_reducible exact LeO.refl _)
   | (with_reducible exact LeO.none _)
   | (with_reducible refine LeO.ite ?_ ?_)
   | (with_reducible refine LeO.bind ?_ (fun _ => ?_))
   | exact ih0 _ _ _
   | exact ih1 _ _ _
   | exact ih2 _ _ _ _ _ _
   | exact ih3 _ _ _ _
   | exact ih4 _ _
   | exact impl_RangesOf.mono _ _
   | exact laws_rangeAwake.mono _
   | exact spec_RangesIn.mono _ _
   | exact spec_RangesSame.mono _ _ _
   | exact LeO.none _
   | refine LeO.ite ?_ ?_
   | refine LeO.bind ?_ (fun _ => ?_)
  ·intro y0 y1 y2 y3
   unfold laws_FnRangesOrder.j3
   repeat' first
   | (with_reducible exact ih0 _ _ _)
   | (with_reducible exact ih1 _ _ _)
   | (with_reducible exact ih2 _ _ _ _ _ _)
   | (with_reducible exact ih3 _ _ _ _)
   | (with_reducible exact ih4 _ _)
   | (with_reducible exact impl_RangesOf.mono _ _)
   | (with_reducible exact laws_rangeAwake.mono _)
   | (with_reducible exact spec_RangesIn.mono _ _)
   | (with_reducible exact spec_RangesSame.mono _ _ _)
   | (with_reducible exact LeO.refl _)
   | (with_reducible exact LeO.none _)
   | (with_reducible refine LeO.ite ?_ ?_)
   | (with_reducible refine LeO.bind ?_ (fun _ => ?_))
   | exact ih0 _ _ _
   | exact ih1 _ _ _
   | exact ih2 _ _ _ _ _ _
   | exact ih3 _ _ _ _
   | exact ih4 _ _
   | exact impl_RangesOf.mono _ _
   | exact laws_rangeAwake.mono _
   | exact spec_RangesIn.mono _ _
   | exact spec_RangesSame.mono _ _ _
   | exact LeO.none _
   | refine LeO.ite ?_ ?_
   | refine LeO.bind ?_ (fun _ => ?_)
  ·intro y0 y1
   unfold laws_FnRangesOrder.j4
   repeat' first
   | (with_reducible exact ih0 _ _ _)
   | (with_reducible exact ih1 _ _ _)
   | (with_reducible exact ih2 _ _ _ _ _ _)
   | (with_reducible exact ih3 _ _ _ _)
   | (with_reducible exact ih4 _ _)
   | (with_reducible exact impl_RangesOf.mono _ _)
   | (with_reducible exact laws_rangeAwake.mono _)
   | (with_reducible exact spec_RangesIn.mono _ _)
   | (with_reducible exact spec_RangesSame.mono _ _ _)
   | (with_reducible exact LeO.refl _)
   | (with_reducible exact LeO.none _)
   | (with_reducible refine LeO.ite ?_ ?_)
   | (with_reducible refine LeO.bind ?_ (fun _ => ?_))
   | exact ih0 _ _ _
   | exact ih1 _ _ _
   | exact ih2 _ _ _ _ _ _
   | exact ih3 _ _ _ _
   | exact ih4 _ _
   | exact impl_RangesOf.mono _ _
   | exact laws_rangeAwake.mono _
   | exact spec_RangesIn.mono _ _
   | exact spec_RangesSame.mono _ _ _
   | exact LeO.none _
   | refine LeO.ite ?_ ?_
   | refine LeO.bind ?_ (fun _ => ?_)
theorem laws_FnRangesOrder.mono : ∀ a0 a1 k, LeO (laws_FnRangesOrder.f k a0 a1) (laws_FnRangesOrder.f (k + 1) a0 a1) := by
 intro a0 a1 k
 obtain ⟨ih0, ih1, ih2, ih3, ih4⟩ := laws_FnRangesOrder.mono_l k
 unfold laws_FnRangesOrder.f
 repeat' first
   | (with_reducible exact ih0 _ _ _)
   | (with_reducible exact ih1 _ _ _)
   | (with_reducible exact ih2 _ _ _ _ _ _)
   | (with_reducible exact ih3 _ _ _ _)
   | (with_reducible exact ih4 _ _)
   | (with_reducible exact impl_RangesOf.mono _ _)
   | (with_reducible exact laws_rangeAwake.mono _)
   | (with_reducible exact spec_RangesIn.mono _ _)
   | (with_reducible exact spec_RangesSame.mono _ _ _)
   | (with_reducible exact LeO.refl _)
   | (with_reducible exact LeO.none _)
   | (with_reducible refine LeO.ite ?_ ?_)
   | (with_reducible refine LeO.bind ?_ (fun _ => ?_))
   | exact ih0 _ _ _
   | exact ih1 _ _ _
   | exact ih2 _ _ _ _ _ _
   | exact ih3 _ _ _ _
   | exact ih4 _ _
   | exact impl_RangesOf.mono _ _
   | exact laws_rangeAwake.mono _
   | exact spec_RangesIn.mono _ _
   | exact spec_RangesSame.mono _ _ _
   | exact LeO.none _
   | refine LeO.ite ?_ ?_
   | refine LeO.bind ?_ (fun _ => ?_)
def laws_FnRangesOrder.T12 : Bool × List (List Nat × List Nat) := (true, [([], []), ([], []), ([1], [1]), ([0, 2], [0, 2]), ([], []), ([4], [4]), ([], []), ([6], [6]), ([5, 7], [5, 7]), ([3, 0, 1, 2, 3], [3]), ([8, 9, 0, 1, 2, 3, 4, 5, 6, 7, 8, 9], [8])])
def laws_FnRangesOrder.B12 : List Nat := [0, 0, 2, 7, 0, 16, 0, 64, 240, 15, 1023]
theorem laws_FnRangesOrder.tab12 : rtab .any (opsOf Try.f8 12) = laws_FnRangesOrder.T12 := by kernel_rfl
theorem laws_FnRangesOrder.bits12 : waitsOk laws_FnRangesOrder.T12.2 laws_FnRangesOrder.B12 = true := by kernel_rfl
def laws_FnRangesOrder.T13 : Bool × List (List Nat × List Nat) := (true, [([], []), ([], []), ([], []), ([], []), ([], []), ([], []), ([4, 5], [4, 5]), ([6], [6]), ([], []), ([], []), ([8, 9], [8, 9]), ([10], [10]), ([0, 1, 0, 1, 4, 5, 6, 7, 11], [0, 1]), ([12, 7, 0, 1, 4, 5, 6, 7, 11], [7, 12]), ([2, 3, 0, 1, 2, 3, 4, 5, 6, 7, 8, 9, 10, 11, 12, 13], [2, 3]), ([14, 11, 13, 0, 1, 2, 3, 4, 5, 6, 7, 8, 9, 10, 11, 12, 13], [11, 14])])
def laws_FnRangesOrder.B13 : List Nat := [0, 0, 0, 0, 0, 0, 48, 112, 0, 0, 768, 1792, 4083, 8179, 16383, 32767]
theorem laws_FnRangesOrder.tab13 : rtab .any (opsOf Try.f8 13) = laws_FnRangesOrder.T13 := by kernel_rfl
theorem laws_FnRangesOrder.bits13 : waitsOk laws_FnRangesOrder.T13.2 laws_FnRangesOrder.B13 = true := by kernel_rfl
set_option maxHeartbeats 8000000 in
set_option maxRecDepth 100000 in
theorem laws_FnRangesOrder.calls (k : Nat) (A0 : Option Addr) (c0 : Nat) (l0 : List (S24)) (A1 : Option Addr) (c1 : Nat) (l1 : List Int) (r : Bool) (w : World) (hr0 : Kd.C k24 w A0 l0.length l0) (hc0 : l0.length ≤ c0) (hr1 : Kd.C (Kd.int .u8) w A1 l1.length l1) (hc1 : l1.length ≤ c1) (h : laws_FnRangesOrder.f k l0 l1 = some r) :
  Calls Try.prog 8 #[.slice A0 l0.length c0, .slice A1 l1.length c1] w fun e w' => e = .returned (.bool r) ∧ Below w.heap.size w w' := by
 have hu24 := Try.underlying24
 have HR0 := Aside0.mk hr0
 have HC0 := Aside0.mk hc0
 clear hr0 hc0
 have HR1 := Aside0.mk hr1
 have HC1 := Aside0.mk hc1
 clear hr1 hc1
 have HB := Aside0.mk (Below.refl w.heap.size w)
 have H : (if (l0.length : Int) > 2147483647 then (laws_FnRangesOrder.j0 k l0 l1 true) else (laws_FnRangesOrder.j0 k l0 l1 (decide ((l1.length : Int) > 2147483647)))) = some r := h
 clear h
 have HC3 := Aside0.mk H
 clear H
 go_enter Try.func8, Try.ntmps8
 go_upto_region 1 with (fail)
 go_cut [17] (fun v17 wc => ∃ (kq : Nat) (x17_2 : Bool), v17 = .bool x17_2 ∧ Aside0 (laws_FnRangesOrder.j0 kq l0 l1 x17_2 = some r) ∧ Aside0 (kq ≤ k) ∧ Aside0 (Below w.heap.size w wc))
 case first =>
  have H := HC3.out
  clear HC3
  by_cases c4 : (l0.length : Int) > 2147483647
  ·rw [if_pos c4] at H
   have c4b0 : decide (2147483647 < (l0.length : Int)) = true := decide_eq_true c4
   have c4b1 : decide (2147483647 < l0.length) = true := decide_eq_true (by omega)
   clear c4
   (first | rw [c4b0] | (simp only [i64_w, i32_w]; rw [c4b0]) | skip)
   have H' := Aside0.mk H
   clear H
   go_wp2
   go_meet
   case rel => exact ⟨_, (true), (by first | rfl | (simp; done) | (simp [*]; done)), H', ⟨by first | omega | exact Nat.le_refl _⟩, ⟨by repeat (first | (with_reducible first | exact HB.out | apply below_alloc | apply pw_below_drewN | apply below_drew1) | exact HB.out)⟩⟩
  ·rw [if_neg c4] at H
   have c4b0 : decide (2147483647 < (l0.length : Int)) = false := decide_eq_false c4
   have c4b1 : decide (2147483647 < l0.length) = false := decide_eq_false (by omega)
   clear c4
   (first | rw [c4b0] | (simp only [i64_w, i32_w]; rw [c4b0]) | skip)
   have H' := Aside0.mk H
   clear H
   go_wp2
   go_meet
   case rel => exact ⟨_, (decide ((l1.length : Int) > 2147483647)), (by first | rfl | (simp; done) | (simp [*]; done)), H', ⟨by first | omega | exact Nat.le_refl _⟩, ⟨by repeat (first | (with_reducible first | exact HB.out | apply below_alloc | apply pw_below_drewN | apply below_drew1) | exact HB.out)⟩⟩
 case rest =>
  clear HC3
  try clear c1
  try clear p2
  try clear c4
  try clear c4b0
  try clear c4b1
  obtain ⟨kq, x17_2, rfl, HA, HJ2, HB⟩ := hcut
  cases kq with
  | zero => exact absurd HA.out (by simp [laws_FnRangesOrder.j0])
  | succ kj2 =>
   have H := HA.out
   clear HA
   simp only [laws_FnRangesOrder.j0] at H
   by_cases c5 : x17_2 = true
   ·subst c5
    have H1 : (some true) = some r := by rw [if_pos rfl] at H; exact H
    clear H
    have H := H1
    clear H1
    obtain rfl := Option.some.inj H
    go_wp2
    go_ret
    exact ⟨by first | rfl | (simp [errW_none, errW_some] <;> rfl) | (simp [*, errW_none, errW_some] <;> rfl), by repeat (first | (with_reducible first | exact HB.out | apply below_alloc | apply pw_below_drewN | apply below_drew1) | exact HB.out)⟩
   ·replace c5 := Bool.eq_false_iff.mpr c5
    subst c5
    have H1 : ((spec_RangesIn.f kj2 l0).bind fun t398 => (if t398 = true then (laws_FnRangesOrder.j1 kj2 l0 l1 (decide ((l1.length : Int) > 60))) else (laws_FnRangesOrder.j1 kj2 l0 l1 true))) = some r := by rw [if_neg (show ¬ (false = true) by decide)] at H; exact H
    clear H
    have H := H1
    clear H1
    have HC6 := Aside0.mk H
    clear H
    go_upto_region 3 with (fail)
    go_cut [25] (fun v25 wc => ∃ (kq : Nat) (x25_5 : Bool), v25 = .bool x25_5 ∧ Aside0 (laws_FnRangesOrder.j1 kq l0 l1 x25_5 = some r) ∧ Aside0 (kq ≤ kj2) ∧ Aside0 (Below w.heap.size w wc))
    case first =>
     have H := HC6.out
     clear HC6
     replace H := Option.bind_eq_some_iff.mp H
     obtain ⟨t398, A70, H⟩ := H
     replace H : (if t398 = true then (laws_FnRangesOrder.j1 kj2 l0 l1 (decide ((l1.length : Int) > 60))) else (laws_FnRangesOrder.j1 kj2 l0 l1 true)) = some r := H
     have A7 := Aside0.mk A70
     clear A70
     by_cases c8 : t398 = true
     ·subst c8
      have H1 : (laws_FnRangesOrder.j1 kj2 l0 l1 (decide ((l1.length : Int) > 60))) = some r := by rw [if_pos rfl] at H; exact H
      clear H
      have H := H1
      clear H1
      have H' := Aside0.mk H
      clear H
      go_wp2_with (first | ((with_reducible refine gate_dst (N := 19) rfl ?_); refine goesL_ (some 19) rfl rfl Try.func11 (by kernel_rfl) rfl #[.slice A0 l0.length c0] rfl (by (try simp only [List.map_toArray, List.map_cons, List.map_nil]); first | done | rfl | (simp only [List.length_drop, List.length_take]; rfl)) ?_; (with_reducible refine (spec_RangesIn.calls kj2 _ _ l0 true _ ?side1 ?side2 A7.out).mono ?_); (case side1 => repeat (first | exact (Kd.C_below HR0.out HB.out) | (with_reducible refine Kd.C_alloc ?_ _) | (with_reducible refine Kd.C_drewN ?_ _) | (with_reducible refine Kd.C_drew ?_))); (case side2 => exact HC0.out); rintro e w9 ⟨rfl, hb⟩; refine ⟨_, rfl, ?_⟩; have n0_ := Aside0.mk (below_step (by repeat (first | (with_reducible first | exact HB.out | apply below_alloc | apply pw_below_drewN | apply below_drew1) | exact HB.out)) hb); clear HB; have HB := n0_; clear n0_; (try clear hb); (try clear hb2); (try clear hk); (try clear hi)))
      go_meet
      case rel => exact ⟨_, (decide ((l1.length : Int) > 60)), (by first | rfl | (simp; done) | (simp [*]; done)), H', ⟨by have := HJ2.out; first | omega | exact Nat.le_refl _⟩, ⟨by repeat (first | (with_reducible first | exact HB.out | apply below_alloc | apply pw_below_drewN | apply below_drew1) | exact HB.out)⟩⟩
     ·replace c8 := Bool.eq_false_iff.mpr c8
      subst c8
      have H1 : (laws_FnRangesOrder.j1 kj2 l0 l1 true) = some r := by rw [if_neg (show ¬ (false = true) by decide)] at H; exact H
      clear H
      have H := H1
      clear H1
      have H' := Aside0.mk H
      clear H
      go_wp2_with (first | ((with_reducible refine gate_dst (N := 19) rfl ?_); refine goesL_ (some 19) rfl rfl Try.func11 (by kernel_rfl) rfl #[.slice A0 l0.length c0] rfl (by (try simp only [List.map_toArray, List.map_cons, List.map_nil]); first | done | rfl | (simp only [List.length_drop, List.length_take]; rfl)) ?_; (with_reducible refine (spec_RangesIn.calls kj2 _ _ l0 false _ ?side1 ?side2 A7.out).mono ?_); (case side1 => repeat (first | exact (Kd.C_below HR0.out HB.out) | (with_reducible refine Kd.C_alloc ?_ _) | (with_reducible refine Kd.C_drewN ?_ _) | (with_reducible refine Kd.C_drew ?_))); (case side2 => exact HC0.out); rintro e w10 ⟨rfl, hb⟩; refine ⟨_, rfl, ?_⟩; have n0_ := Aside0.mk (below_step (by repeat (first | (with_reducible first | exact HB.out | apply below_alloc | apply pw_below_drewN | apply below_drew1) | exact HB.out)) hb); clear HB; have HB := n0_; clear n0_; (try clear hb); (try clear hb2); (try clear hk); (try clear hi)))
      go_meet
      case rel => exact ⟨_, (true), (by first | rfl | (simp; done) | (simp [*]; done)), H', ⟨by have := HJ2.out; first | omega | exact Nat.le_refl _⟩, ⟨by repeat (first | (with_reducible first | exact HB.out | apply below_alloc | apply pw_below_drewN | apply below_drew1) | exact HB.out)⟩⟩
    case rest =>
     clear HC6
     try clear c1
     try clear p2
     try clear c4
     try clear c4b0
     try clear c4b1
     try clear c5
     try clear c8
     try clear p2
     obtain ⟨kq, x25_5, rfl, HA, HJ5, HB⟩ := hcut
     cases kq with
     | zero => exact absurd HA.out (by simp [laws_FnRangesOrder.j1])
     | succ kj5 =>
      have H := HA.out
      clear HA
      simp only [laws_FnRangesOrder.j1] at H
      by_cases c11 : x25_5 = true
      ·subst c11
       have H1 : (some true) = some r := by rw [if_pos rfl] at H; exact H
       clear H
       have H := H1
       clear H1
       obtain rfl := Option.some.inj H
       go_wp2
       go_ret
       exact ⟨by first | rfl | (simp [errW_none, errW_some] <;> rfl) | (simp [*, errW_none, errW_some] <;> rfl), by repeat (first | (with_reducible first | exact HB.out | apply below_alloc | apply pw_below_drewN | apply below_drew1) | exact HB.out)⟩
      ·replace c11 := Bool.eq_false_iff.mpr c11
       subst c11
       have H1 : ((laws_rangeAwake.f kj5).bind fun t399 => (if t399 = true then ((some (([] : List (S24)) : List (S24))).bind fun y400 => (if y400.length + l0.length < 8796093022208 then (laws_FnRangesOrder.l0 kj5 l0 l1 (y400 ++ l0) l1 (l1.length : Int) 0) else (none))) else (some false))) = some r := by rw [if_neg (show ¬ (false = true) by decide)] at H; exact H
       clear H
       have H := H1
       clear H1
       replace H := Option.bind_eq_some_iff.mp H
       obtain ⟨t399, A120, H⟩ := H
       replace H : (if t399 = true then ((some (([] : List (S24)) : List (S24))).bind fun y400 => (if y400.length + l0.length < 8796093022208 then (laws_FnRangesOrder.l0 kj5 l0 l1 (y400 ++ l0) l1 (l1.length : Int) 0) else (none))) else (some false)) = some r := H
       have A12 := Aside0.mk A120
       clear A120
       by_cases c13 : t399 = true
       ·subst c13
        have H1 : ((some (([] : List (S24)) : List (S24))).bind fun y400 => (if y400.length + l0.length < 8796093022208 then (laws_FnRangesOrder.l0 kj5 l0 l1 (y400 ++ l0) l1 (l1.length : Int) 0) else (none))) = some r := by rw [if_pos rfl] at H; exact H
        clear H
        have H := H1
        clear H1
        obtain ⟨y400, hy400⟩ : ∃ y_ : List (S24), y_ = (([] : List (S24))) := ⟨_, rfl⟩
        replace H : (if y400.length + l0.length < 8796093022208 then (laws_FnRangesOrder.l0 kj5 l0 l1 (y400 ++ l0) l1 (l1.length : Int) 0) else (none)) = some r := by first | (rw [hy400]; with_reducible exact H) | (have H2_ := (Option.bind_some _ _).symm.trans H; rw [hy400]; with_reducible exact H2_) | (have H2_ := (Option.bind_some _ _).symm.trans H; with_reducible exact H2_) | with_reducible exact H | (rw [hy400]; exact H) | exact H
        have Ny400 := Aside0.mk hy400
        clear hy400
        by_cases c14 : y400.length + l0.length < 8796093022208
        ·rw [if_pos c14] at H
         have LMc14 := Aside0.mk c14
         clear c14
         obtain ⟨y403, hy403⟩ : ∃ y_ : List (S24), y_ = (y400 ++ l0) := ⟨_, rfl⟩
         replace H : (laws_FnRangesOrder.l0 kj5 l0 l1 y403 l1 (l1.length : Int) 0) = some r := by first | (rw [hy403]; with_reducible exact H) | (have H2_ := (Option.bind_some _ _).symm.trans H; rw [hy403]; with_reducible exact H2_) | (have H2_ := (Option.bind_some _ _).symm.trans H; with_reducible exact H2_) | with_reducible exact H | (rw [hy403]; exact H) | exact H
         have Ny403 := Aside0.mk hy403
         clear hy403
         have H' := Aside0.mk H
         clear H
         go_wp2_with (first | ((with_reducible refine gate_dst (N := 26) rfl ?_); refine goesL_ (some 26) rfl rfl Try.func13 (by kernel_rfl) rfl #[] rfl (by (try simp only [List.map_toArray, List.map_cons, List.map_nil]); first | done | rfl | (simp only [List.length_drop, List.length_take]; rfl)) ?_; (with_reducible refine (laws_rangeAwake.calls kj5  true _ A12.out).mono ?_); rintro e w15 ⟨rfl, hb⟩; refine ⟨_, rfl, ?_⟩; have n0_ := Aside0.mk (below_step (by repeat (first | (with_reducible first | exact HB.out | apply below_alloc | apply pw_below_drewN | apply below_drew1) | exact HB.out)) hb); clear HB; have HB := n0_; clear n0_; (try clear hb); (try clear hb2); (try clear hk); (try clear hi)) | ((with_reducible refine gate_dst (N := 28) rfl ?_); (try (refine gate_guard (by rfl) ?_; dsimp only)); refine Kd.R_lit k24 _ 24 ?hg (N := 28) ?hd (xs := ([] : List (S24))) (inner := []) (ok := fun _ => True) (okp := fun _ => True) ?hr ?hp (fun _ hk => hk) trivial (Below.refl _ _) (Nat.le_refl _) (by simp) ?_; (case hd => rfl); (case hg => rfl); (case hr => first | (go_simp; done) | (go_simp; rfl)); (case hp => exact (Reps.none _ _)); intro v401 w16 ho17 hb hg_ hnew_; clear hg_ hnew_; (first | rw [← Ny400.out] at ho17 | (simp only [Int.reduceToNat] at ho17; rw [← Ny400.out] at ho17)); have n0_ := Aside0.mk (Kd.R_lower ho17 (below_size (by repeat (first | (with_reducible first | exact HB.out | apply below_alloc | apply pw_below_drewN | apply below_drew1) | exact HB.out)))); have n1_ := Aside0.mk (below_step (by repeat (first | (with_reducible first | exact HB.out | apply below_alloc | apply pw_below_drewN | apply below_drew1) | exact HB.out)) hb); clear HB; have HO402 := n0_; have HB := n1_; clear n0_ n1_; clear hb ho17) | ((try (refine gate_guard (by rfl) ?_; dsimp only)); at_builtin; refine Kd.R_append_rows k24 (w0 := w) w.heap.size rfl (.tmp 28) (.tmp 29) 22 24 (.agg #[(.int .i64 0), (.int .i64 0)]) 16 rfl Try.underlying22 info24 rfl (by decide) (by omega) v401 y400 l0 _ _ _ (fun _ => True) (fun _ => False) rfl rfl ?aO ?aR (fun _ _ h => h) (fun _ h => h.elim) ?aF ?aB ?aS ?aL ?_; (case aR => repeat (first | exact (Kd.C_below HR0.out HB.out) | (with_reducible refine Kd.C_alloc ?_ _) | (with_reducible refine Kd.C_drewN ?_ _) | (with_reducible refine Kd.C_drew ?_))); (case aB => exact (by repeat (first | (with_reducible first | exact HB.out | apply below_alloc | apply pw_below_drewN | apply below_drew1) | exact HB.out))); (case aF => exact (fun _ _ => trivial)); (case aO => exact (by (with_reducible repeat (first | apply Kd.R_alloc | apply Kd.R_drewN | apply Kd.R_drew)); exact HO402.out)); (case aS => exact (below_size (by repeat (first | (with_reducible first | exact HB.out | apply below_alloc | apply pw_below_drewN | apply below_drew1) | exact HB.out)))); (case aL => have := LMc14.out; omega); intro v404 w18 ho hb hg hat; rw [← Ny403.out] at ho; have n0_ := Aside0.mk (hb); have n1_ := Aside0.mk (ho); clear HB; clear HO402; have HB := n0_; have HO405 := n1_; clear n0_ n1_; clear ho hb hg hat))
         go_loopg [33] kj5 (fun kq v33 w' => ∃ (x5_3 : List (S24)) (x33_3 : Int), v33 = .int .i64 x33_3 ∧ Aside0 (laws_FnRangesOrder.l0 kq l0 l1 x5_3 l1 (l1.length : Int) x33_3 = some r) ∧ Aside0 (kq ≤ kj5) ∧ Aside0 (Kd.R k24 24 w' w.heap.size (fun _ => True) v404 x5_3) ∧ Aside0 (Below w.heap.size w w'))
         case atStart => exact ⟨(y403), (0), (by first | rfl | (simp; done) | (simp [*]; done)), H', ⟨Nat.le_refl _⟩, ⟨by (with_reducible repeat (first | apply Kd.R_alloc | apply Kd.R_drewN | apply Kd.R_drew)); exact HO405.out⟩, ⟨by repeat (first | (with_reducible first | exact HB.out | apply below_alloc | apply pw_below_drewN | apply below_drew1) | exact HB.out)⟩⟩
         case round =>
          clear H'
          try clear c1
          try clear p2
          try clear c4
          try clear c4b0
          try clear c4b1
          try clear c5
          try clear c8
          try clear c11
          try clear c13
          try clear c14
          try clear p2
          obtain ⟨x5_3, x33_3, rfl, HA, HK3, HO_5, HB⟩ := hrel
          cases gk with
          | zero => exact absurd HA.out (by simp [laws_FnRangesOrder.l0])
          | succ k3 =>
           have H := HA.out
           clear HA
           simp only [laws_FnRangesOrder.l0] at H
           by_cases c19 : x33_3 < (l1.length : Int)
           ·rw [if_pos c19] at H
            have c19b0 : decide (x33_3 < (l1.length : Int)) = true := decide_eq_true c19
            clear c19
            by_cases c20 : 0 ≤ x33_3
            ·rw [if_pos c20] at H
             have c20b0 : decide (0 ≤ x33_3) = true := decide_eq_true c20
             clear c20
             by_cases c21 : x33_3 < (l1.length : Int)
             ·rw [if_pos c21] at H
              have c21b0 : decide (x33_3 < (l1.length : Int)) = true := decide_eq_true c21
              clear c21
              by_cases c22 : (x5_3.length : Int) > 1
              ·rw [if_pos c22] at H
               have c22b0 : decide (1 < (x5_3.length : Int)) = true := decide_eq_true c22
               have c22b1 : decide (1 < x5_3.length) = true := decide_eq_true (by omega)
               clear c22
               by_cases c23 : (x5_3.length : Int) = 0
               ·rw [if_pos c23] at H
                exact absurd H (by simp)
               ·rw [if_neg c23] at H
                have c23b0 : ((x5_3.length : Int) == 0) = false := beq_eq_false_iff_ne.mpr c23
                have c23b1 : ((x5_3.length : Int) != 0) = true := bne_iff_ne.mpr c23
                have c23b2 : ¬ (x5_3 = []) := fun h_ => c23 (by rw [h_]; rfl)
                obtain ⟨ji24, hji24⟩ : ∃ j_ : Int, (Int.tmod (wrap64 (rd l1 x33_3)) (x5_3.length : Int)) = j_ := ⟨_, rfl⟩
                replace H : (if 0 ≤ (ji24) then (if (ji24) < (x5_3.length : Int) then (if 0 ≤ (Int.tmod x33_3 (x5_3.length : Int)) then (if (Int.tmod x33_3 (x5_3.length : Int)) < (x5_3.length : Int) then (laws_FnRangesOrder.l0 k3 l0 l1 ((x5_3.set ((Int.tmod x33_3 (x5_3.length : Int)) : Int).toNat (⟨(rd_T24 x5_3 (ji24)).f0, (rd_T24 x5_3 (ji24)).f1⟩ : S24)).set ((ji24) : Int).toNat (⟨(rd_T24 x5_3 (Int.tmod x33_3 (x5_3.length : Int))).f0, (rd_T24 x5_3 (Int.tmod x33_3 (x5_3.length : Int))).f1⟩ : S24)) l1 (l1.length : Int) (wrap64 (x33_3 + 1))) else (none)) else (none)) else (none)) else (none)) = some r := by first | (rw [hji24] at H; exact H) | (simp only [hji24] at H ⊢; exact H)
                by_cases c25 : 0 ≤ (ji24)
                ·rw [if_pos c25] at H
                 have c25b0 : decide (0 ≤ (ji24)) = true := decide_eq_true c25
                 clear c25
                 by_cases c26 : (ji24) < (x5_3.length : Int)
                 ·rw [if_pos c26] at H
                  have c26b0 : decide ((ji24) < (x5_3.length : Int)) = true := decide_eq_true c26
                  clear c26
                  obtain ⟨ji27, hji27⟩ : ∃ j_ : Int, (Int.tmod x33_3 (x5_3.length : Int)) = j_ := ⟨_, rfl⟩
                  replace H : (if 0 ≤ (ji27) then (if (ji27) < (x5_3.length : Int) then (laws_FnRangesOrder.l0 k3 l0 l1 ((x5_3.set ((ji27) : Int).toNat (⟨(rd_T24 x5_3 (ji24)).f0, (rd_T24 x5_3 (ji24)).f1⟩ : S24)).set ((ji24) : Int).toNat (⟨(rd_T24 x5_3 (ji27)).f0, (rd_T24 x5_3 (ji27)).f1⟩ : S24)) l1 (l1.length : Int) (wrap64 (x33_3 + 1))) else (none)) else (none)) = some r := by first | (rw [hji27] at H; exact H) | (simp only [hji27] at H ⊢; exact H)
                  by_cases c28 : 0 ≤ (ji27)
                  ·rw [if_pos c28] at H
                   have c28b0 : decide (0 ≤ (ji27)) = true := decide_eq_true c28
                   clear c28
                   by_cases c29 : (ji27) < (x5_3.length : Int)
                   ·rw [if_pos c29] at H
                    have c29b0 : decide ((ji27) < (x5_3.length : Int)) = true := decide_eq_true c29
                    clear c29
                    obtain ⟨y409, hy409⟩ : ∃ y_ : List (S24), y_ = (x5_3.set ((ji27) : Int).toNat (⟨(rd_T24 x5_3 (ji24)).f0, (rd_T24 x5_3 (ji24)).f1⟩ : S24)) := ⟨_, rfl⟩
                    replace H : (laws_FnRangesOrder.l0 k3 l0 l1 (y409.set ((ji24) : Int).toNat (⟨(rd_T24 x5_3 (ji27)).f0, (rd_T24 x5_3 (ji27)).f1⟩ : S24)) l1 (l1.length : Int) (wrap64 (x33_3 + 1))) = some r := by first | (rw [hy409]; with_reducible exact H) | (have H2_ := (Option.bind_some _ _).symm.trans H; rw [hy409]; with_reducible exact H2_) | (have H2_ := (Option.bind_some _ _).symm.trans H; with_reducible exact H2_) | with_reducible exact H | (rw [hy409]; exact H) | exact H
                    have Ny409 := Aside0.mk hy409
                    clear hy409
                    obtain ⟨y410, hy410⟩ : ∃ y_ : List (S24), y_ = (y409.set ((ji24) : Int).toNat (⟨(rd_T24 x5_3 (ji27)).f0, (rd_T24 x5_3 (ji27)).f1⟩ : S24)) := ⟨_, rfl⟩
                    replace H : (laws_FnRangesOrder.l0 k3 l0 l1 y410 l1 (l1.length : Int) (wrap64 (x33_3 + 1))) = some r := by first | (rw [hy410]; with_reducible exact H) | (have H2_ := (Option.bind_some _ _).symm.trans H; rw [hy410]; with_reducible exact H2_) | (have H2_ := (Option.bind_some _ _).symm.trans H; with_reducible exact H2_) | with_reducible exact H | (rw [hy410]; exact H) | exact H
                    have Ny410 := Aside0.mk hy410
                    clear hy410
                    have H' := Aside0.mk H
                    clear H
                    have p406 : 0 ≤ (x33_3 : Int) := of_decide_eq_true (by first | (with_reducible assumption) | assumption)
                    have q406 : x33_3 < (l1.length : Int) := of_decide_eq_true (by first | (with_reducible assumption) | assumption)
                    obtain ⟨ad406, e406, hx406_0⟩ := Kd.at_int HR1.out x33_3 p406 q406
                    cases e406
                    replace hx406_0 := (HB.out.cell (World.block_lt_of_cell? w _ hx406_0)).trans hx406_0
                    replace p406 := eq_true p406
                    replace q406 := eq_true q406
                    obtain ⟨Ao32, co32, eo32⟩ := Kd.R_slice HO_5.out
                    subst eo32
                    try go_wp2
                    have n0_ := Aside0.mk (Kd.R_drew HO_5.out)
                    have n1_ := Aside0.mk (below_drew1 HB.out)
                    clear HO_5
                    clear HB
                    have HO_5 := n0_
                    have HB := n1_
                    clear n0_ n1_
                    refine start_ (n := 11) (S := fun w' => True) (ds := []) #[false, false, false, false, false, false, false, false, false, false, false] (by kernel_rfl) rfl rfl trivial (fun hHeld => ?_); refine with_tabW laws_FnRangesOrder.tab12 laws_FnRangesOrder.bits12 (fun HT_ HW_ => ?_)
                    generalize wr.drew = w33 at HO_5 HB hHeld ⊢
                    refine pure_ (i := 0) (N := some 41) (v := ?_) (a' := ?_) #[true, false, false, false, false, false, false, false, false, false, false] rfl rfl (any_of HT_.out (by kernel_rfl)) (fun _ _ _ h => h) (Or.inl ⟨by rfl, ?_⟩) ?_ ?_
                    rotate_left
                    ·intro w'
                     go_simp
                     with_reducible rfl
                    rotate_left
                    ·simp only [Act.put, List.setIfInBounds_toArray, List.set_cons_zero, List.set_cons_succ, i64_w, i32_w]
                     rfl
                    refine pure_ (i := 1) (N := some 42) (v := ?_) (a' := ?_) #[true, true, false, false, false, false, false, false, false, false, false] rfl rfl (any_of HT_.out (by kernel_rfl)) (fun _ _ _ h => h) (Or.inl ⟨by rfl, ?_⟩) ?_ ?_
                    rotate_left
                    ·intro w'
                     go_simp
                     with_reducible rfl
                    rotate_left
                    ·simp only [Act.put, List.setIfInBounds_toArray, List.set_cons_zero, List.set_cons_succ, i64_w, i32_w]
                     rfl
                    refine pure_ (i := 2) (N := some 43) (v := ?_) (a' := ?_) #[true, true, true, false, false, false, false, false, false, false, false] rfl rfl (any_of HT_.out (by kernel_rfl)) (fun _ _ _ h => h) (Or.inl ⟨by rfl, ?_⟩) ?_ ?_
                    rotate_left
                    ·intro w'
                     go_simp
                     with_reducible rfl
                    rotate_left
                    ·simp only [Act.put, List.setIfInBounds_toArray, List.set_cons_zero, List.set_cons_succ, i64_w, i32_w]
                     rfl
                    refine pure_ (i := 3) (N := some 44) (v := ?_) (a' := ?_) #[true, true, true, true, false, false, false, false, false, false, false] rfl rfl (any_of HT_.out (by kernel_rfl)) (fun _ _ _ h => h) (Or.inl ⟨by rfl, ?_⟩) ?_ ?_
                    rotate_left
                    ·intro w'
                     go_simp
                     with_reducible rfl
                    rotate_left
                    ·simp only [Act.put, List.setIfInBounds_toArray, List.set_cons_zero, List.set_cons_succ, i64_w, i32_w]
                     rfl
                    refine pure_ (i := 4) (N := some 45) (v := ?_) (a' := ?_) #[true, true, true, true, true, false, false, false, false, false, false] rfl rfl (any_of HT_.out (by kernel_rfl)) (fun _ _ _ h => h) (Or.inl ⟨by rfl, ?_⟩) ?_ ?_
                    rotate_left
                    ·intro w'
                     go_simp
                     with_reducible rfl
                    rotate_left
                    ·simp only [Act.put, List.setIfInBounds_toArray, List.set_cons_zero, List.set_cons_succ, i64_w, i32_w]
                     rfl
                    refine pure_ (i := 5) (N := some 46) (v := ?_) (a' := ?_) #[true, true, true, true, true, true, false, false, false, false, false] rfl rfl (any_of HT_.out (by kernel_rfl)) (fun _ _ _ h => h) (Or.inl ⟨by rfl, ?_⟩) ?_ ?_
                    rotate_left
                    ·intro w'
                     go_simp
                     with_reducible rfl
                    rotate_left
                    ·simp only [Act.put, List.setIfInBounds_toArray, List.set_cons_zero, List.set_cons_succ, i64_w, i32_w]
                     rfl
                    refine pure_ (i := 6) (N := some 47) (v := ?_) (a' := ?_) #[true, true, true, true, true, true, true, false, false, false, false] rfl rfl (any_of HT_.out (by kernel_rfl)) (fun _ _ _ h => h) (Or.inl ⟨by rfl, ?_⟩) ?_ ?_
                    rotate_left
                    ·intro w'
                     go_simp
                     with_reducible rfl
                    rotate_left
                    ·simp only [Act.put, List.setIfInBounds_toArray, List.set_cons_zero, List.set_cons_succ, i64_w, i32_w]
                     rfl
                    refine pure_ (i := 7) (N := some 48) (v := ?_) (a' := ?_) #[true, true, true, true, true, true, true, true, false, false, false] rfl rfl (any_of HT_.out (by kernel_rfl)) (fun _ _ _ h => h) (Or.inl ⟨by rfl, ?_⟩) ?_ ?_
                    rotate_left
                    ·intro w'
                     go_simp
                     with_reducible rfl
                    rotate_left
                    ·simp only [Act.put, List.setIfInBounds_toArray, List.set_cons_zero, List.set_cons_succ, i64_w, i32_w]
                     rfl
                    refine pure_ (i := 8) (N := some 49) (v := ?_) (a' := ?_) #[true, true, true, true, true, true, true, true, true, false, false] rfl rfl (any_of HT_.out (by kernel_rfl)) (fun _ _ _ h => h) (Or.inl ⟨by rfl, ?_⟩) ?_ ?_
                    rotate_left
                    ·intro w'
                     go_simp
                     with_reducible rfl
                    rotate_left
                    ·simp only [Act.put, List.setIfInBounds_toArray, List.set_cons_zero, List.set_cons_succ, i64_w, i32_w]
                     rfl
                    refine pure_ (i := 9) (N := some 8) (v := ?_) (a' := ?_) #[true, true, true, true, true, true, true, true, true, true, false] rfl rfl (any_of HT_.out (by kernel_rfl)) (fun _ _ _ h => h) (Or.inl ⟨by rfl, ?_⟩) ?_ ?_
                    rotate_left
                    ·intro w'
                     go_simp
                     with_reducible rfl
                    rotate_left
                    ·simp only [Act.put, List.setIfInBounds_toArray, List.set_cons_zero, List.set_cons_succ, i64_w, i32_w]
                     rfl
                    refine pure_ (i := 10) (N := some 9) (v := ?_) (a' := ?_) #[true, true, true, true, true, true, true, true, true, true, true] rfl rfl (any_of HT_.out (by kernel_rfl)) (fun _ _ _ h => h) (Or.inl ⟨by rfl, ?_⟩) ?_ ?_
                    rotate_left
                    ·intro w'
                     go_simp
                     with_reducible rfl
                    rotate_left
                    ·simp only [Act.put, List.setIfInBounds_toArray, List.set_cons_zero, List.set_cons_succ, i64_w, i32_w]
                     rfl
                    refine done_ (done_of HT_.out (by kernel_rfl)) ?_
                    try go_wp2
                    have n0_ := Aside0.mk (Kd.R_drew HO_5.out)
                    have n1_ := Aside0.mk (below_drew1 HB.out)
                    clear HO_5
                    clear HB
                    have HO_5 := n0_
                    have HB := n1_
                    clear n0_ n1_
                    have p407 : 0 ≤ ((ji24) : Int) := of_decide_eq_true (by first | (with_reducible assumption) | assumption)
                    have q407 : (ji24) < (x5_3.length : Int) := of_decide_eq_true (by first | (with_reducible assumption) | assumption)
                    obtain ⟨ad407, e407, hx407_0, hx407_1⟩ := at_T24 (Kd.R_reads' HO_5.out).2.2 (ji24) p407 q407
                    cases e407
                    replace p407 := eq_true p407
                    replace q407 := eq_true q407
                    have p408 : 0 ≤ ((ji27) : Int) := of_decide_eq_true (by first | (with_reducible assumption) | assumption)
                    have q408 : (ji27) < (x5_3.length : Int) := of_decide_eq_true (by first | (with_reducible assumption) | assumption)
                    obtain ⟨ad408, e408, hx408_0, hx408_1⟩ := at_T24 (Kd.R_reads' HO_5.out).2.2 (ji27) p408 q408
                    obtain rfl : ad408 = ad407 := (by injection e408 with h_; exact h_.symm)
                    replace p408 := eq_true p408
                    replace q408 := eq_true q408
                    have p30 : 0 ≤ ((ji27) : Int) := of_decide_eq_true (by first | (with_reducible assumption) | assumption)
                    have q30 : ((ji27) : Int) < ((x5_3.length : Int) : Int) := of_decide_eq_true (by first | (with_reducible assumption) | assumption)
                    obtain ⟨go30, co30, eo30, gb30, gl30, cl30, HG30⟩ := Kd.R_form HO_5.out (by omega)
                    (first | cases eo30 | (injection eo30 with ea_ en_ ec_; (first | subst ea_ | (injection ea_ with ea_; subst ea_)); subst ec_; clear en_))
                    have GB30 := Aside0.mk gb30
                    have GG30 := Aside0.mk HG30
                    clear gb30 gl30 HG30
                    (first | simp only [add_plain] at hx407_0 | skip)
                    (first | simp only [add_plain] at hx407_1 | skip)
                    (first | simp only [add_plain] at hx408_0 | skip)
                    (first | simp only [add_plain] at hx408_1 | skip)
                    obtain ⟨ce30, hcl30, hM30, hcc30, hfr30⟩ := Kd.R_elem HO_5.out z24 ((ji27) : Int) p30 q30
                    obtain rfl := k24_openM hM30
                    have hx30_0 : World.cell? _ ⟨go30, ((ji27) : Int).toNat * 2, none⟩ = some (.int .i64 ((rd_T24 x5_3 (ji27)).f0)) := hcc30 0 _ rfl
                    have hx30_1 : World.cell? _ ⟨go30, ((ji27) : Int).toNat * 2 + 1, none⟩ = some (.int .i64 ((rd_T24 x5_3 (ji27)).f1)) := hcc30 1 _ rfl
                    have hf30_0 : World.frozen? _ ⟨go30, ((ji27) : Int).toNat * 2, none⟩ = false := hfr30 0
                    have hf30_1 : World.frozen? _ ⟨go30, ((ji27) : Int).toNat * 2 + 1, none⟩ = false := hfr30 1
                    clear hcl30 hcc30 hfr30 hM30
                    replace p30 := eq_true p30
                    replace q30 := eq_true q30
                    obtain ⟨ce35, hcl35, hM35, hcc35, hfr35⟩ := Kd.R_elem HO_5.out z24 ((ji27) : Int) (of_decide_eq_true (by first | (with_reducible assumption) | assumption)) (by have h_ : ((ji27) : Int) < ((x5_3.length : Int) : Int) := of_decide_eq_true (by first | (with_reducible assumption) | assumption); first | exact h_ | (have e_ := (Kd.R_reads' HO_5.out).1; omega) | simpa using h_)
                    obtain rfl := k24_openM hM35
                    have HP35 := (Kd.R_seg HO_5.out ((ji27) : Int) (of_decide_eq_true (by first | (with_reducible assumption) | assumption)) (by have h_ : ((ji27) : Int) < ((x5_3.length : Int) : Int) := of_decide_eq_true (by first | (with_reducible assumption) | assumption); first | exact h_ | (have e_ := (Kd.R_reads' HO_5.out).1; omega) | simpa using h_) (seg := [.int .i64 ((rd_T24 x5_3 (ji24)).f0), .int .i64 ((rd_T24 x5_3 (ji24)).f1)]) (j := 0) hcl35 hcc35 (show 2 ≤ 2 from by decide) (x' := (⟨(rd_T24 x5_3 (ji24)).f0, (rd_T24 x5_3 (ji24)).f1⟩ : S24)) (k24_mkM _ _ _ (⟨(rd_T24 x5_3 (ji24)).f0, (rd_T24 x5_3 (ji24)).f1⟩ : S24) ) (fun _ hk => hk)).1
                    rw [← Ny409.out] at HP35
                    have HQ35 := Aside0.mk HP35
                    clear hcl35 hcc35 hfr35 hM35 HP35
                    have p31 : 0 ≤ ((ji24) : Int) := of_decide_eq_true (by first | (with_reducible assumption) | assumption)
                    have q31 : ((ji24) : Int) < ((x5_3.length : Int) : Int) := of_decide_eq_true (by first | (with_reducible assumption) | assumption)
                    obtain ⟨ce31, hcl31, hM31, hcc31, hfr31⟩ := Kd.R_elem HQ35.out z24 ((ji24) : Int) p31 q31
                    obtain rfl := k24_openM hM31
                    have hx31_0 : World.cell? _ ⟨go30, ((ji24) : Int).toNat * 2, none⟩ = some (.int .i64 ((rd_T24 y409 (ji24)).f0)) := hcc31 0 _ rfl
                    have hx31_1 : World.cell? _ ⟨go30, ((ji24) : Int).toNat * 2 + 1, none⟩ = some (.int .i64 ((rd_T24 y409 (ji24)).f1)) := hcc31 1 _ rfl
                    have hf31_0 : World.frozen? _ ⟨go30, ((ji24) : Int).toNat * 2, none⟩ = false := hfr31 0
                    have hf31_1 : World.frozen? _ ⟨go30, ((ji24) : Int).toNat * 2 + 1, none⟩ = false := hfr31 1
                    clear hcl31 hcc31 hfr31 hM31
                    replace p31 := eq_true p31
                    replace q31 := eq_true q31
                    obtain ⟨ce36, hcl36, hM36, hcc36, hfr36⟩ := Kd.R_elem HQ35.out z24 ((ji24) : Int) (of_decide_eq_true (by first | (with_reducible assumption) | assumption)) (by have h_ : ((ji24) : Int) < ((x5_3.length : Int) : Int) := of_decide_eq_true (by first | (with_reducible assumption) | assumption); first | exact h_ | (have e_ := (Kd.R_reads' HO_5.out).1; omega) | simpa using h_)
                    obtain rfl := k24_openM hM36
                    have HP36 := (Kd.R_seg HQ35.out ((ji24) : Int) (of_decide_eq_true (by first | (with_reducible assumption) | assumption)) (by have h_ : ((ji24) : Int) < ((x5_3.length : Int) : Int) := of_decide_eq_true (by first | (with_reducible assumption) | assumption); first | exact h_ | (have e_ := (Kd.R_reads' HO_5.out).1; omega) | simpa using h_) (seg := [.int .i64 ((rd_T24 x5_3 (ji27)).f0), .int .i64 ((rd_T24 x5_3 (ji27)).f1)]) (j := 0) hcl36 hcc36 (show 2 ≤ 2 from by decide) (x' := (⟨(rd_T24 x5_3 (ji27)).f0, (rd_T24 x5_3 (ji27)).f1⟩ : S24)) (k24_mkM _ _ _ (⟨(rd_T24 x5_3 (ji27)).f0, (rd_T24 x5_3 (ji27)).f1⟩ : S24) ) (fun _ hk => hk)).1
                    rw [← Ny410.out] at HP36
                    have HQ36 := Aside0.mk HP36
                    clear hcl36 hcc36 hfr36 hM36 HP36
                    refine start_ (n := 16) (S := fun w' => w'.cell? ⟨go30, (ji24).toNat * 2, none⟩ = some (.int .i64 ((rd_T24 x5_3 (ji24)).f0)) ∧ w'.cell? ⟨go30, (ji24).toNat * 2 + 1, none⟩ = some (.int .i64 ((rd_T24 x5_3 (ji24)).f1)) ∧ w'.cell? ⟨go30, (ji27).toNat * 2, none⟩ = some (.int .i64 ((rd_T24 x5_3 (ji27)).f0)) ∧ w'.cell? ⟨go30, (ji27).toNat * 2 + 1, none⟩ = some (.int .i64 ((rd_T24 x5_3 (ji27)).f1))) (ds := [13, 15]) #[false, false, false, false, false, false, false, false, false, false, false, false, false, false, false, false] (by kernel_rfl) rfl rfl ⟨hx407_0, hx407_1, hx408_0, hx408_1⟩ (fun hHeld => ?_); refine with_tabW laws_FnRangesOrder.tab13 laws_FnRangesOrder.bits13 (fun HT_ HW_ => ?_)
                    generalize w33.drew = w34 at HO_5 HB GG30 HQ35 HQ36 hf30_0 hf30_1 hf31_0 hf31_1 hx30_0 hx30_1 hx31_0 hx31_1 hx407_0 hx407_1 hx408_0 hx408_1 hHeld ⊢
                    refine pure_ (i := 0) (N := some 50) (v := ?_) (a' := ?_) #[true, false, false, false, false, false, false, false, false, false, false, false, false, false, false, false] rfl rfl (any_of HT_.out (by kernel_rfl)) (fun _ _ _ h => h) (Or.inl ⟨by rfl, ?_⟩) ?_ ?_
                    rotate_left
                    ·intro w'
                     go_simp
                     with_reducible rfl
                    rotate_left
                    ·simp only [Act.put, List.setIfInBounds_toArray, List.set_cons_zero, List.set_cons_succ, i64_w, i32_w]
                     rfl
                    refine pure_ (i := 1) (N := some 51) (v := ?_) (a' := ?_) #[true, true, false, false, false, false, false, false, false, false, false, false, false, false, false, false] rfl rfl (any_of HT_.out (by kernel_rfl)) (fun _ _ _ h => h) (Or.inl ⟨by rfl, ?_⟩) ?_ ?_
                    rotate_left
                    ·intro w'
                     go_simp
                     with_reducible rfl
                    rotate_left
                    ·simp only [Act.put, List.setIfInBounds_toArray, List.set_cons_zero, List.set_cons_succ, i64_w, i32_w]
                     rfl
                    refine pure_ (i := 2) (N := some 52) (v := ?_) (a' := ?_) #[true, true, true, false, false, false, false, false, false, false, false, false, false, false, false, false] rfl rfl (any_of HT_.out (by kernel_rfl)) (fun _ _ _ h => h) (Or.inl ⟨by rfl, ?_⟩) ?_ ?_
                    rotate_left
                    ·intro w'
                     go_simp
                     with_reducible rfl
                    rotate_left
                    ·simp only [Act.put, List.setIfInBounds_toArray, List.set_cons_zero, List.set_cons_succ, i64_w, i32_w]
                     rfl
                    refine pure_ (i := 3) (N := some 53) (v := ?_) (a' := ?_) #[true, true, true, true, false, false, false, false, false, false, false, false, false, false, false, false] rfl rfl (any_of HT_.out (by kernel_rfl)) (fun _ _ _ h => h) (Or.inl ⟨by rfl, ?_⟩) ?_ ?_
                    rotate_left
                    ·intro w'
                     go_simp
                     with_reducible rfl
                    rotate_left
                    ·simp only [Act.put, List.setIfInBounds_toArray, List.set_cons_zero, List.set_cons_succ, i64_w, i32_w]
                     rfl
                    refine pure_ (i := 4) (N := some 54) (v := ?_) (a' := ?_) #[true, true, true, true, true, false, false, false, false, false, false, false, false, false, false, false] rfl rfl (any_of HT_.out (by kernel_rfl)) (fun _ _ _ h => h) (Or.inl ⟨by rfl, ?_⟩) ?_ ?_
                    rotate_left
                    ·intro w'
                     go_simp
                     with_reducible rfl
                    rotate_left
                    ·simp only [Act.put, List.setIfInBounds_toArray, List.set_cons_zero, List.set_cons_succ, i64_w, i32_w]
                     rfl
                    refine pure_ (i := 5) (N := some 55) (v := ?_) (a' := ?_) #[true, true, true, true, true, true, false, false, false, false, false, false, false, false, false, false] rfl rfl (any_of HT_.out (by kernel_rfl)) (fun _ _ _ h => h) (Or.inl ⟨by rfl, ?_⟩) ?_ ?_
                    rotate_left
                    ·intro w'
                     go_simp
                     with_reducible rfl
                    rotate_left
                    ·simp only [Act.put, List.setIfInBounds_toArray, List.set_cons_zero, List.set_cons_succ, i64_w, i32_w]
                     rfl
                    refine pure_ (i := 6) (N := some 56) (v := ?_) (a' := ?_) #[true, true, true, true, true, true, true, false, false, false, false, false, false, false, false, false] rfl rfl (any_of HT_.out (by kernel_rfl)) (fun _ _ _ h => h) (Or.inl ⟨by rfl, ?_⟩) ?_ ?_
                    rotate_left
                    ·intro w'
                     go_simp
                     with_reducible rfl
                    rotate_left
                    ·simp only [Act.put, List.setIfInBounds_toArray, List.set_cons_zero, List.set_cons_succ, i64_w, i32_w]
                     rfl
                    refine pure_ (i := 8) (N := some 58) (v := ?_) (a' := ?_) #[true, true, true, true, true, true, true, false, true, false, false, false, false, false, false, false] rfl rfl (any_of HT_.out (by kernel_rfl)) (fun _ _ _ h => h) (Or.inl ⟨by rfl, ?_⟩) ?_ ?_
                    rotate_left
                    ·intro w'
                     go_simp
                     with_reducible rfl
                    rotate_left
                    ·simp only [Act.put, List.setIfInBounds_toArray, List.set_cons_zero, List.set_cons_succ, i64_w, i32_w]
                     rfl
                    refine pure_ (i := 9) (N := some 59) (v := ?_) (a' := ?_) #[true, true, true, true, true, true, true, false, true, true, false, false, false, false, false, false] rfl rfl (any_of HT_.out (by kernel_rfl)) (fun _ _ _ h => h) (Or.inl ⟨by rfl, ?_⟩) ?_ ?_
                    rotate_left
                    ·intro w'
                     go_simp
                     with_reducible rfl
                    rotate_left
                    ·simp only [Act.put, List.setIfInBounds_toArray, List.set_cons_zero, List.set_cons_succ, i64_w, i32_w]
                     rfl
                    refine pure_ (i := 10) (N := some 60) (v := ?_) (a' := ?_) #[true, true, true, true, true, true, true, false, true, true, true, false, false, false, false, false] rfl rfl (any_of HT_.out (by kernel_rfl)) (fun _ _ _ h => h) (Or.inl ⟨by rfl, ?_⟩) ?_ ?_
                    rotate_left
                    ·intro w'
                     go_simp
                     with_reducible rfl
                    rotate_left
                    ·simp only [Act.put, List.setIfInBounds_toArray, List.set_cons_zero, List.set_cons_succ, i64_w, i32_w]
                     rfl
                    refine take_ (i := 7) (N := some 57) (v := ?_) (a' := ?_) #[true, true, true, true, true, true, true, true, true, true, true, false, false, false, false, false] rfl rfl (take_ofW HT_.out HW_.out (by kernel_rfl)) (fun _ _ _ h => h) (Or.inl ⟨by rfl, ?_⟩) hHeld ?_ ?_
                    rotate_left
                    ·rintro w' ⟨s0, s1, s2, s3⟩
                     go_simp
                     with_reducible rfl
                    rotate_left
                    ·simp only [Act.put, List.setIfInBounds_toArray, List.set_cons_zero, List.set_cons_succ, i64_w, i32_w]
                     rfl
                    refine take_ (i := 11) (N := some 61) (v := ?_) (a' := ?_) #[true, true, true, true, true, true, true, true, true, true, true, true, false, false, false, false] rfl rfl (take_ofW HT_.out HW_.out (by kernel_rfl)) (fun _ _ _ h => h) (Or.inl ⟨by rfl, ?_⟩) hHeld ?_ ?_
                    rotate_left
                    ·rintro w' ⟨s0, s1, s2, s3⟩
                     go_simp
                     with_reducible rfl
                    rotate_left
                    ·simp only [Act.put, List.setIfInBounds_toArray, List.set_cons_zero, List.set_cons_succ, i64_w, i32_w]
                     rfl
                    refine pure_ (i := 12) (N := some 62) (v := ?_) (a' := ?_) #[true, true, true, true, true, true, true, true, true, true, true, true, true, false, false, false] rfl rfl (any_of HT_.out (by kernel_rfl)) (fun _ _ _ h => h) (Or.inl ⟨by rfl, ?_⟩) ?_ ?_
                    rotate_left
                    ·intro w'
                     go_simp
                     with_reducible rfl
                    rotate_left
                    ·simp only [Act.put, List.setIfInBounds_toArray, List.set_cons_zero, List.set_cons_succ, i64_w, i32_w]
                     rfl
                    refine last_ (i := 13) (N := none) #[true, true, true, true, true, true, true, true, true, true, true, true, true, true, false, false] rfl rfl (one_of HT_.out (by kernel_rfl)) (by decide) (fun K hK => ?_)
                    refine skip_ (w1 := ?_) (by rfl) rfl ?_ ?_
                    rotate_left
                    ·go_simp
                     rfl
                    refine hK.out _ _ ?_
                    clear hK K
                    refine pure_ (i := 14) (N := some 63) (v := ?_) (a' := ?_) #[true, true, true, true, true, true, true, true, true, true, true, true, true, true, true, false] rfl rfl (any_of HT_.out (by kernel_rfl)) (fun _ _ _ h => h) (Or.inl ⟨by rfl, ?_⟩) ?_ ?_
                    rotate_left
                    ·intro w'
                     go_simp
                     with_reducible rfl
                    rotate_left
                    ·simp only [Act.put, List.setIfInBounds_toArray, List.set_cons_zero, List.set_cons_succ, i64_w, i32_w]
                     rfl
                    have hy31_0 : World.cell? (World.setCell w34 ⟨go30, ji27.toNat * 2, none⟩ (Value.int IntKind.i64 (rd_T24 x5_3 ji24).f0)) ⟨go30, ji24.toNat * 2, none⟩ = some (Value.int IntKind.i64 (rd_T24 y409 ji24).f0) := by have h_ : World.cell? (((World.setCell w34 ⟨go30, ji27.toNat * 2, none⟩ (Value.int IntKind.i64 (rd_T24 x5_3 ji24).f0))).setCell ⟨go30, ji27.toNat * 2 + 1, none⟩ (Value.int IntKind.i64 (rd_T24 x5_3 ji24).f1)) ⟨go30, ji24.toNat * 2, none⟩ = some (Value.int IntKind.i64 (rd_T24 y409 ji24).f0) := hx31_0; exact (World.cell?_setCell_other _ (⟨go30, ji27.toNat * 2 + 1, none⟩ : Addr) (⟨go30, ji24.toNat * 2, none⟩ : Addr) _ (fun e_ => by have h_ : ji27.toNat * 2 + 1 = ji24.toNat * 2 := congrArg Addr.off e_; omega)).symm.trans h_
                    have hy31_1 : World.cell? (((World.setCell w34 ⟨go30, ji27.toNat * 2, none⟩ (Value.int IntKind.i64 (rd_T24 x5_3 ji24).f0))).setCell ⟨go30, ji27.toNat * 2 + 1, none⟩ (Value.int IntKind.i64 (rd_T24 x5_3 ji24).f1)) ⟨go30, ji24.toNat * 2 + 1, none⟩ = some (Value.int IntKind.i64 (rd_T24 y409 ji24).f1) := hx31_1
                    have hg31_0 : World.frozen? w34 ⟨go30, ji24.toNat * 2, none⟩ = false := by have h_ : World.frozen? (((World.setCell w34 ⟨go30, ji27.toNat * 2, none⟩ (Value.int IntKind.i64 (rd_T24 x5_3 ji24).f0))).setCell ⟨go30, ji27.toNat * 2 + 1, none⟩ (Value.int IntKind.i64 (rd_T24 x5_3 ji24).f1)) ⟨go30, ji24.toNat * 2, none⟩ = false := hf31_0; simpa only [World.frozen?_setCell] using h_
                    have hg31_1 : World.frozen? w34 ⟨go30, ji24.toNat * 2 + 1, none⟩ = false := by have h_ : World.frozen? (((World.setCell w34 ⟨go30, ji27.toNat * 2, none⟩ (Value.int IntKind.i64 (rd_T24 x5_3 ji24).f0))).setCell ⟨go30, ji27.toNat * 2 + 1, none⟩ (Value.int IntKind.i64 (rd_T24 x5_3 ji24).f1)) ⟨go30, ji24.toNat * 2 + 1, none⟩ = false := hf31_1; simpa only [World.frozen?_setCell] using h_
                    refine last_ (i := 15) (N := none) #[true, true, true, true, true, true, true, true, true, true, true, true, true, true, true, true] rfl rfl (one_of HT_.out (by kernel_rfl)) (by decide) (fun K hK => ?_)
                    refine skip_ (w1 := ?_) (by rfl) rfl ?_ ?_
                    rotate_left
                    ·go_simp
                     rfl
                    refine hK.out _ _ ?_
                    clear hK K
                    refine done_ (done_of HT_.out (by kernel_rfl)) ?_
                    try go_wp2
                    go_roundg k3
                    case measure => have := HJ2.out; have := HJ5.out; have := HK3.out; omega
                    case rel => exact ⟨(y410), (wrap64 (x33_3 + 1)), (by first | rfl | (simp; done) | (simp [*]; done)), H', ⟨by have := HJ2.out; have := HJ5.out; have := HK3.out; omega⟩, ⟨by (with_reducible repeat (first | apply Kd.R_alloc | apply Kd.R_drewN | apply Kd.R_drew)); exact HQ36.out⟩, ⟨by repeat (first | (with_reducible first | exact HB.out | apply below_alloc | apply pw_below_drewN | apply below_drew1 | refine below_set ?_ GB30.out | refine below_set ?_ GB30.out | refine below_set ?_ GB30.out | refine below_set ?_ GB30.out) | exact HB.out)⟩⟩
                   ·rw [if_neg c29] at H
                    exact absurd H (by simp)
                  ·rw [if_neg c28] at H
                   exact absurd H (by simp)
                 ·rw [if_neg c26] at H
                  exact absurd H (by simp)
                ·rw [if_neg c25] at H
                 exact absurd H (by simp)
              ·rw [if_neg c22] at H
               have c22b0 : decide (1 < (x5_3.length : Int)) = false := decide_eq_false c22
               have c22b1 : decide (1 < x5_3.length) = false := decide_eq_false (by omega)
               clear c22
               have H' := Aside0.mk H
               clear H
               have p406 : 0 ≤ (x33_3 : Int) := of_decide_eq_true (by first | (with_reducible assumption) | assumption)
               have q406 : x33_3 < (l1.length : Int) := of_decide_eq_true (by first | (with_reducible assumption) | assumption)
               obtain ⟨ad406, e406, hx406_0⟩ := Kd.at_int HR1.out x33_3 p406 q406
               cases e406
               replace hx406_0 := (HB.out.cell (World.block_lt_of_cell? w _ hx406_0)).trans hx406_0
               replace p406 := eq_true p406
               replace q406 := eq_true q406
               obtain ⟨Ao37, co37, eo37⟩ := Kd.R_slice HO_5.out
               subst eo37
               go_wp2
               go_roundg k3
               case measure => have := HJ2.out; have := HJ5.out; have := HK3.out; omega
               case rel => exact ⟨(x5_3), (wrap64 (x33_3 + 1)), (by first | rfl | (simp; done) | (simp [*]; done)), H', ⟨by have := HJ2.out; have := HJ5.out; have := HK3.out; omega⟩, ⟨by (with_reducible repeat (first | apply Kd.R_alloc | apply Kd.R_drewN | apply Kd.R_drew)); exact HO_5.out⟩, ⟨by repeat (first | (with_reducible first | exact HB.out | apply below_alloc | apply pw_below_drewN | apply below_drew1) | exact HB.out)⟩⟩
             ·rw [if_neg c21] at H
              exact absurd H (by simp)
            ·rw [if_neg c20] at H
             exact absurd H (by simp)
           ·rw [if_neg c19] at H
            have c19b0 : decide (x33_3 < (l1.length : Int)) = false := decide_eq_false c19
            clear c19
            have HC38 := Aside0.mk H
            clear H
            go_upto_region 15 with (fail)
            go_cut [72] (fun v72 wc => ∃ (kq : Nat) (x72_37 : Bool), v72 = .bool x72_37 ∧ Aside0 (laws_FnRangesOrder.j3 kq l0 l1 x5_3 x72_37 = some r) ∧ Aside0 (kq ≤ k3) ∧ Aside0 (Kd.R k24 24 wc w.heap.size (fun _ => True) v404 x5_3) ∧ Aside0 (Below w.heap.size w wc))
            case first =>
             have H := HC38.out
             clear HC38
             by_cases c39 : (l0.length : Int) > 0
             ·rw [if_pos c39] at H
              have c39b0 : decide (0 < (l0.length : Int)) = true := decide_eq_true c39
              have c39b1 : decide (0 < l0.length) = true := decide_eq_true (by omega)
              clear c39
              (first | rw [c39b0] | (simp only [i64_w, i32_w]; rw [c39b0]) | skip)
              have H' := Aside0.mk H
              clear H
              go_wp2
              go_meet
              case rel => exact ⟨_, (decide ((l1.length : Int) > 0)), (by first | rfl | (simp; done) | (simp [*]; done)), H', ⟨by have := HJ2.out; have := HJ5.out; have := HK3.out; first | omega | exact Nat.le_refl _⟩, ⟨by (with_reducible repeat (first | apply Kd.R_alloc | apply Kd.R_drewN | apply Kd.R_drew)); exact HO_5.out⟩, ⟨by repeat (first | (with_reducible first | exact HB.out | apply below_alloc | apply pw_below_drewN | apply below_drew1) | exact HB.out)⟩⟩
             ·rw [if_neg c39] at H
              have c39b0 : decide (0 < (l0.length : Int)) = false := decide_eq_false c39
              have c39b1 : decide (0 < l0.length) = false := decide_eq_false (by omega)
              clear c39
              (first | rw [c39b0] | (simp only [i64_w, i32_w]; rw [c39b0]) | skip)
              have H' := Aside0.mk H
              clear H
              go_wp2
              go_meet
              case rel => exact ⟨_, (false), (by first | rfl | (simp; done) | (simp [*]; done)), H', ⟨by have := HJ2.out; have := HJ5.out; have := HK3.out; first | omega | exact Nat.le_refl _⟩, ⟨by (with_reducible repeat (first | apply Kd.R_alloc | apply Kd.R_drewN | apply Kd.R_drew)); exact HO_5.out⟩, ⟨by repeat (first | (with_reducible first | exact HB.out | apply below_alloc | apply pw_below_drewN | apply below_drew1) | exact HB.out)⟩⟩
            case rest =>
             clear HC38
             try clear c1
             try clear c2
             try clear p2
             try clear c3
             try clear p3
             try clear q3
             try clear hx3
             try clear hf3
             try clear c4
             try clear c4b0
             try clear c4b1
             try clear p4
             try clear q4
             try clear hx4
             try clear c5
             try clear p6
             try clear c8
             try clear c11
             try clear c13
             try clear c14
             try clear c19
             try clear c19b0
             try clear c20
             try clear c20b0
             try clear c21
             try clear c21b0
             try clear c22
             try clear c22b0
             try clear c22b1
             try clear c23
             try clear c23b0
             try clear c23b1
             try clear c23b2
             try clear c25
             try clear c25b0
             try clear c26
             try clear c26b0
             try clear c28
             try clear c28b0
             try clear c29
             try clear c29b0
             try clear c30
             try clear p30
             try clear q30
             try clear hx30
             try clear hf30
             try clear c31
             try clear p31
             try clear q31
             try clear hx31
             try clear hf31
             try clear c35
             try clear c36
             try clear c39
             try clear c39b0
             try clear c39b1
             try clear hx30_0
             try clear hx30_1
             try clear hx31_0
             try clear hx31_1
             try clear hx406_0
             try clear hx407_0
             try clear hx407_1
             try clear hx408_0
             try clear hx408_1
             try clear p2
             try clear p30
             try clear p31
             try clear p406
             try clear p407
             try clear p408
             try clear q30
             try clear q31
             try clear q406
             try clear q407
             try clear q408
             obtain ⟨kq, x72_37, rfl, HA, HJ37, HO_5, HB⟩ := hcut
             cases kq with
             | zero => exact absurd HA.out (by simp [laws_FnRangesOrder.j3])
             | succ kj37 =>
              have H := HA.out
              clear HA
              simp only [laws_FnRangesOrder.j3] at H
              have HC40 := Aside0.mk H
              clear H
              go_upto_if 72 with (fail)
              go_cut [5] (fun v5 wc => ∃ (kq : Nat) (x5_39 : List (S24)), Aside0 (laws_FnRangesOrder.j4 kq l0 x5_39 = some r) ∧ Aside0 (kq ≤ kj37) ∧ Aside0 (Kd.R k24 24 wc w.heap.size (fun _ => True) v5 x5_39) ∧ Aside0 (Below w.heap.size w wc))
              case first =>
               have H := HC40.out
               clear HC40
               by_cases c41 : x72_37 = true
               ·subst c41
                have H1 : (if 0 < (l1.length : Int) then (if (l0.length : Int) = 0 then (none) else (if 0 ≤ (Int.tmod (wrap64 (rd l1 0)) (l0.length : Int)) then (if (Int.tmod (wrap64 (rd l1 0)) (l0.length : Int)) < (l0.length : Int) then (if x5_3.length < 8796093022208 then (laws_FnRangesOrder.j4 kj37 l0 (x5_3 ++ [(⟨(rd_T24 l0 (Int.tmod (wrap64 (rd l1 0)) (l0.length : Int))).f0, (rd_T24 l0 (Int.tmod (wrap64 (rd l1 0)) (l0.length : Int))).f1⟩ : S24)])) else (none)) else (none)) else (none))) else (none)) = some r := by rw [if_pos rfl] at H; exact H
                clear H
                have H := H1
                clear H1
                by_cases c42 : 0 < (l1.length : Int)
                ·rw [if_pos c42] at H
                 have c42b0 : decide (0 < (l1.length : Int)) = true := decide_eq_true c42
                 have c42b1 : decide (0 < l1.length) = true := decide_eq_true (by omega)
                 clear c42
                 (first | rw [c42b0] | (simp only [i64_w, i32_w]; rw [c42b0]) | skip)
                 by_cases c43 : (l0.length : Int) = 0
                 ·rw [if_pos c43] at H
                  exact absurd H (by simp)
                 ·rw [if_neg c43] at H
                  have c43b0 : ((l0.length : Int) == 0) = false := beq_eq_false_iff_ne.mpr c43
                  have c43b1 : ((l0.length : Int) != 0) = true := bne_iff_ne.mpr c43
                  have c43b2 : ¬ (l0 = []) := fun h_ => c43 (by rw [h_]; rfl)
                  obtain ⟨ji44, hji44⟩ : ∃ j_ : Int, (Int.tmod (wrap64 (rd l1 0)) (l0.length : Int)) = j_ := ⟨_, rfl⟩
                  replace H : (if 0 ≤ (ji44) then (if (ji44) < (l0.length : Int) then (if x5_3.length < 8796093022208 then (laws_FnRangesOrder.j4 kj37 l0 (x5_3 ++ [(⟨(rd_T24 l0 (ji44)).f0, (rd_T24 l0 (ji44)).f1⟩ : S24)])) else (none)) else (none)) else (none)) = some r := by first | (rw [hji44] at H; exact H) | (simp only [hji44] at H ⊢; exact H)
                  by_cases c45 : 0 ≤ (ji44)
                  ·rw [if_pos c45] at H
                   have c45b0 : decide (0 ≤ (ji44)) = true := decide_eq_true c45
                   clear c45
                   by_cases c46 : (ji44) < (l0.length : Int)
                   ·rw [if_pos c46] at H
                    have c46b0 : decide ((ji44) < (l0.length : Int)) = true := decide_eq_true c46
                    clear c46
                    by_cases c47 : x5_3.length < 8796093022208
                    ·rw [if_pos c47] at H
                     have LMc47 := Aside0.mk c47
                     clear c47
                     obtain ⟨y413, hy413⟩ : ∃ y_ : List (S24), y_ = (x5_3 ++ [(⟨(rd_T24 l0 (ji44)).f0, (rd_T24 l0 (ji44)).f1⟩ : S24)]) := ⟨_, rfl⟩
                     replace H : (laws_FnRangesOrder.j4 kj37 l0 y413) = some r := by first | (rw [hy413]; with_reducible exact H) | (have H2_ := (Option.bind_some _ _).symm.trans H; rw [hy413]; with_reducible exact H2_) | (have H2_ := (Option.bind_some _ _).symm.trans H; with_reducible exact H2_) | with_reducible exact H | (rw [hy413]; exact H) | exact H
                     have Ny413 := Aside0.mk hy413
                     clear hy413
                     have H' := Aside0.mk H
                     clear H
                     have p411 : 0 ≤ (0 : Int) := (by omega)
                     have q411 : 0 < (l1.length : Int) := of_decide_eq_true (by first | (with_reducible assumption) | assumption)
                     obtain ⟨ad411, e411, hx411_0⟩ := Kd.at_int HR1.out 0 p411 q411
                     cases e411
                     have qi411 : (0 < l1.length) = True := eq_true (by omega)
                     (try rw [show ((0 : Int)).toNat = 0 from rfl] at hx411_0)
                     (try rw [Addr.add_zero'] at hx411_0)
                     replace hx411_0 := (HB.out.cell (World.block_lt_of_cell? w _ hx411_0)).trans hx411_0
                     replace p411 := eq_true p411
                     replace q411 := eq_true q411
                     have p412 : 0 ≤ ((ji44) : Int) := of_decide_eq_true (by first | (with_reducible assumption) | assumption)
                     have q412 : (ji44) < (l0.length : Int) := of_decide_eq_true (by first | (with_reducible assumption) | assumption)
                     obtain ⟨ad412, e412, hx412_0, hx412_1⟩ := at_T24 HR0.out (ji44) p412 q412
                     cases e412
                     replace hx412_0 := (HB.out.cell (World.block_lt_of_cell? w _ hx412_0)).trans hx412_0
                     replace hx412_1 := (HB.out.cell (World.block_lt_of_cell? w _ hx412_1)).trans hx412_1
                     replace p412 := eq_true p412
                     replace q412 := eq_true q412
                     go_wp2_with (first | ((try (refine gate_guard (by rfl) ?_; dsimp only)); at_builtin; refine Kd.R_append k24 (w0 := w) w.heap.size rfl (.tmp 73) (.tmp 84) 22 24 (.agg #[(.int .i64 0), (.int .i64 0)]) 16 rfl Try.underlying22 info24 rfl (by decide) (by omega) v404 x5_3 (⟨(rd_T24 l0 (ji44)).f0, (rd_T24 l0 (ji44)).f1⟩ : S24) [.int .i64 ((rd_T24 l0 (ji44)).f0), .int .i64 ((rd_T24 l0 (ji44)).f1)] (fun _ => True) (fun _ => False) rfl rfl ?aP (fun _ hk => hk.elim) ?aF ?aO ?aB ?aS ?aL ?_; (case aP => exact k24_mkM _ _ _ (⟨(rd_T24 l0 (ji44)).f0, (rd_T24 l0 (ji44)).f1⟩ : S24)); (case aB => exact (by repeat (first | (with_reducible first | exact HB.out | apply below_alloc | apply pw_below_drewN | apply below_drew1) | exact HB.out))); (case aF => exact (fun _ _ => trivial)); (case aO => exact (by (with_reducible repeat (first | apply Kd.R_alloc | apply Kd.R_drewN | apply Kd.R_drew)); exact HO_5.out)); (case aS => exact (below_size (by repeat (first | (with_reducible first | exact HB.out | apply below_alloc | apply pw_below_drewN | apply below_drew1) | exact HB.out)))); (case aL => have := LMc47.out; omega); intro v414 w48 ho hb hg hat; rw [← Ny413.out] at ho; have n0_ := Aside0.mk (hb); have n1_ := Aside0.mk (ho); clear HB; clear HO_5; have HB := n0_; have HO415 := n1_; clear n0_ n1_; clear ho hb hg hat))
                     go_meet
                     case rel => exact ⟨_, (y413), H', ⟨by have := HJ2.out; have := HJ5.out; have := HK3.out; have := HJ37.out; first | omega | exact Nat.le_refl _⟩, ⟨by (with_reducible repeat (first | apply Kd.R_alloc | apply Kd.R_drewN | apply Kd.R_drew)); exact HO415.out⟩, ⟨by repeat (first | (with_reducible first | exact HB.out | apply below_alloc | apply pw_below_drewN | apply below_drew1) | exact HB.out)⟩⟩
                    ·rw [if_neg c47] at H
                     exact absurd H (by simp)
                   ·rw [if_neg c46] at H
                    exact absurd H (by simp)
                  ·rw [if_neg c45] at H
                   exact absurd H (by simp)
                ·rw [if_neg c42] at H
                 exact absurd H (by simp)
               ·replace c41 := Bool.eq_false_iff.mpr c41
                subst c41
                have H1 : (laws_FnRangesOrder.j4 kj37 l0 x5_3) = some r := by rw [if_neg (show ¬ (false = true) by decide)] at H; exact H
                clear H
                have H := H1
                clear H1
                have H' := Aside0.mk H
                clear H
                go_wp2
                go_meet
                case rel => exact ⟨_, (x5_3), H', ⟨by have := HJ2.out; have := HJ5.out; have := HK3.out; have := HJ37.out; first | omega | exact Nat.le_refl _⟩, ⟨by (with_reducible repeat (first | apply Kd.R_alloc | apply Kd.R_drewN | apply Kd.R_drew)); exact HO_5.out⟩, ⟨by repeat (first | (with_reducible first | exact HB.out | apply below_alloc | apply pw_below_drewN | apply below_drew1) | exact HB.out)⟩⟩
              case rest =>
               clear HC40
               try clear c1
               try clear c2
               try clear p2
               try clear c3
               try clear p3
               try clear q3
               try clear hx3
               try clear hf3
               try clear c4
               try clear c4b0
               try clear c4b1
               try clear p4
               try clear q4
               try clear hx4
               try clear qi4
               try clear c5
               try clear p6
               try clear c8
               try clear c11
               try clear c13
               try clear c14
               try clear c19
               try clear c19b0
               try clear c20
               try clear c20b0
               try clear c21
               try clear c21b0
               try clear c22
               try clear c22b0
               try clear c22b1
               try clear c23
               try clear c23b0
               try clear c23b1
               try clear c23b2
               try clear c25
               try clear c25b0
               try clear c26
               try clear c26b0
               try clear c28
               try clear c28b0
               try clear c29
               try clear c29b0
               try clear c30
               try clear p30
               try clear q30
               try clear hx30
               try clear hf30
               try clear c31
               try clear p31
               try clear q31
               try clear hx31
               try clear hf31
               try clear c35
               try clear c36
               try clear c39
               try clear c39b0
               try clear c39b1
               try clear p40
               try clear q40
               try clear hx40
               try clear c41
               try clear p41
               try clear q41
               try clear hx41
               try clear qi41
               try clear c42
               try clear c42b0
               try clear c42b1
               try clear c43
               try clear c43b0
               try clear c43b1
               try clear c43b2
               try clear c45
               try clear c45b0
               try clear c46
               try clear c46b0
               try clear c47
               try clear hx30_0
               try clear hx30_1
               try clear hx31_0
               try clear hx31_1
               try clear hx406_0
               try clear hx407_0
               try clear hx407_1
               try clear hx408_0
               try clear hx408_1
               try clear hx411_0
               try clear hx412_0
               try clear hx412_1
               try clear p2
               try clear p3
               try clear p30
               try clear p31
               try clear p4
               try clear p406
               try clear p407
               try clear p408
               try clear p411
               try clear p412
               try clear p6
               try clear q3
               try clear q30
               try clear q31
               try clear q4
               try clear q406
               try clear q407
               try clear q408
               try clear q411
               try clear q412
               obtain ⟨kq, x5_39, HA, HJ39, HO_5, HB⟩ := hcut
               cases kq with
               | zero => exact absurd HA.out (by simp [laws_FnRangesOrder.j4])
               | succ kj39 =>
                have H := HA.out
                clear HA
                simp only [laws_FnRangesOrder.j4] at H
                replace H := Option.bind_eq_some_iff.mp H
                obtain ⟨t416, A490, H⟩ := H
                replace H : ((impl_RangesOf.f kj39 x5_39).bind fun t419 => ((spec_RangesSame.f kj39 t416 t419).bind fun t422 => (if t422 = true then ((impl_RangesEqual.f l0 x5_39).bind fun t423 => (some t423)) else (some false)))) = some r := H
                have A49 := Aside0.mk A490
                clear A490
                replace H := Option.bind_eq_some_iff.mp H
                obtain ⟨t419, A500, H⟩ := H
                replace H : ((spec_RangesSame.f kj39 t416 t419).bind fun t422 => (if t422 = true then ((impl_RangesEqual.f l0 x5_39).bind fun t423 => (some t423)) else (some false))) = some r := H
                have A50 := Aside0.mk A500
                clear A500
                replace H := Option.bind_eq_some_iff.mp H
                obtain ⟨t422, A510, H⟩ := H
                replace H : (if t422 = true then ((impl_RangesEqual.f l0 x5_39).bind fun t423 => (some t423)) else (some false)) = some r := H
                have A51 := Aside0.mk A510
                clear A510
                by_cases c52 : t422 = true
                ·subst c52
                 have H1 : ((impl_RangesEqual.f l0 x5_39).bind fun t423 => (some t423)) = some r := by rw [if_pos rfl] at H; exact H
                 clear H
                 have H := H1
                 clear H1
                 replace H := Option.bind_eq_some_iff.mp H
                 obtain ⟨t423, A530, H⟩ := H
                 replace H : (some t423) = some r := H
                 have A53 := Aside0.mk A530
                 clear A530
                 obtain rfl := Option.some.inj H
                 go_wp2_with (first | ((with_reducible refine gate_dst (N := 87) rfl ?_); refine goesL_ (some 87) rfl rfl Try.func28 (by kernel_rfl) rfl #[.slice A0 l0.length c0] rfl (by (try simp only [List.map_toArray, List.map_cons, List.map_nil]); first | done | rfl | (simp only [List.length_drop, List.length_take]; rfl)) ?_; (with_reducible refine (impl_RangesOf.calls kj39 _ _ l0 t416 _ ?side1 ?side2 A49.out).mono ?_); (case side1 => repeat (first | exact (Kd.C_below HR0.out HB.out) | (with_reducible refine Kd.C_alloc ?_ _) | (with_reducible refine Kd.C_drewN ?_ _) | (with_reducible refine Kd.C_drew ?_))); (case side2 => exact HC0.out); rintro e w54 ⟨v417, rfl, ho0, hb⟩; refine ⟨_, rfl, ?_⟩; have n0_ := Aside0.mk (Kd.R_elder' (by (with_reducible repeat (first | apply Kd.R_alloc | apply Kd.R_drewN | apply Kd.R_drew)); exact HO_5.out) (Kd.R_base ho0) hb); have n1_ := Aside0.mk (Kd.R_lower (Kd.R_new' ho0 (Kd.R_lt (by (with_reducible repeat (first | apply Kd.R_alloc | apply Kd.R_drewN | apply Kd.R_drew)); exact HO_5.out))) (below_size (by repeat (first | (with_reducible first | exact HB.out | apply below_alloc | apply pw_below_drewN | apply below_drew1) | exact HB.out)))); have n2_ := Aside0.mk (below_step (by repeat (first | (with_reducible first | exact HB.out | apply below_alloc | apply pw_below_drewN | apply below_drew1) | exact HB.out)) hb); clear HO_5; clear HB; have HO_5 := n0_; have HO418 := n1_; have HB := n2_; clear n0_ n1_ n2_; (try clear hb); (try clear hb2); (try clear hk); (try clear hi); (try clear ho0); obtain ⟨Ao55, co55, eo55⟩ := Kd.R_slice HO_5.out; subst eo55) | ((with_reducible refine gate_dst (N := 89) rfl ?_); refine goesL_ (some 89) rfl rfl Try.func28 (by kernel_rfl) rfl #[.slice Ao55 x5_39.length co55] rfl (by (try simp only [List.map_toArray, List.map_cons, List.map_nil]); first | done | rfl | (simp only [List.length_drop, List.length_take]; rfl)) ?_; (with_reducible refine (impl_RangesOf.calls kj39 _ _ x5_39 t419 _ ?side1 ?side2 A50.out).mono ?_); (case side1 => repeat (first | exact (Kd.R_reads' HO_5.out).2.2 | (with_reducible refine Kd.C_alloc ?_ _) | (with_reducible refine Kd.C_drewN ?_ _) | (with_reducible refine Kd.C_drew ?_))); (case side2 => exact (Kd.R_reads' HO_5.out).2.1); rintro e w56 ⟨v420, rfl, ho0, hb⟩; refine ⟨_, rfl, ?_⟩; have n0_ := Aside0.mk (Kd.R_elder' (by (with_reducible repeat (first | apply Kd.R_alloc | apply Kd.R_drewN | apply Kd.R_drew)); exact HO_5.out) (Kd.R_base ho0) hb); have n1_ := Aside0.mk (Kd.R_elder' (by (with_reducible repeat (first | apply Kd.R_alloc | apply Kd.R_drewN | apply Kd.R_drew)); exact HO418.out) (Kd.R_base ho0) hb); have n2_ := Aside0.mk (Kd.R_lower (Kd.R_new' (Kd.R_new' ho0 (Kd.R_lt (by (with_reducible repeat (first | apply Kd.R_alloc | apply Kd.R_drewN | apply Kd.R_drew)); exact HO_5.out))) (Kd.R_lt (by (with_reducible repeat (first | apply Kd.R_alloc | apply Kd.R_drewN | apply Kd.R_drew)); exact HO418.out))) (below_size (by repeat (first | (with_reducible first | exact HB.out | apply below_alloc | apply pw_below_drewN | apply below_drew1) | exact HB.out)))); have n3_ := Aside0.mk (below_step (by repeat (first | (with_reducible first | exact HB.out | apply below_alloc | apply pw_below_drewN | apply below_drew1) | exact HB.out)) hb); clear HO_5; clear HO418; clear HB; have HO_5 := n0_; have HO418 := n1_; have HO421 := n2_; have HB := n3_; clear n0_ n1_ n2_ n3_; (try clear hb); (try clear hb2); (try clear hk); (try clear hi); (try clear ho0); obtain ⟨Ao57, co57, eo57⟩ := Kd.R_slice HO418.out; subst eo57; obtain ⟨Ao58, co58, eo58⟩ := Kd.R_slice HO421.out; subst eo58) | ((with_reducible refine gate_dst (N := 90) rfl ?_); refine goesL_ (some 90) rfl rfl Try.func25 (by kernel_rfl) rfl #[.slice Ao57 t416.length co57, .slice Ao58 t419.length co58] rfl (by (try simp only [List.map_toArray, List.map_cons, List.map_nil]); first | done | rfl | (simp only [List.length_drop, List.length_take]; rfl)) ?_; (with_reducible refine (spec_RangesSame.calls kj39 _ _ t416 _ _ t419 true _ ?side1 ?side2 ?side3 ?side4 A51.out).mono ?_); (case side1 => repeat (first | exact (Kd.R_reads' HO418.out).2.2 | (with_reducible refine Kd.C_alloc ?_ _) | (with_reducible refine Kd.C_drewN ?_ _) | (with_reducible refine Kd.C_drew ?_))); (case side2 => exact (Kd.R_reads' HO418.out).2.1); (case side3 => repeat (first | exact (Kd.R_reads' HO421.out).2.2 | (with_reducible refine Kd.C_alloc ?_ _) | (with_reducible refine Kd.C_drewN ?_ _) | (with_reducible refine Kd.C_drew ?_))); (case side4 => exact (Kd.R_reads' HO421.out).2.1); rintro e w' ⟨rfl, ⟨nd, rfl⟩⟩; refine ⟨_, rfl, ?_⟩) | (go_at_call 27; (with_reducible refine (impl_RangesEqual.calls _ _ l0 _ _ x5_39 t423 _ ?side1 ?side2 ?side3 ?side4 A53.out).mono ?_); (case side1 => repeat (first | exact (Kd.C_below HR0.out (by repeat (first | (with_reducible first | exact HB.out | apply below_alloc | apply pw_below_drewN | apply below_drew1) | exact HB.out))) | (with_reducible refine Kd.C_alloc ?_ _) | (with_reducible refine Kd.C_drewN ?_ _) | (with_reducible refine Kd.C_drew ?_))); (case side2 => exact HC0.out); (case side3 => repeat (first | exact (Kd.R_reads' HO_5.out).2.2 | (with_reducible refine Kd.C_alloc ?_ _) | (with_reducible refine Kd.C_drewN ?_ _) | (with_reducible refine Kd.C_drew ?_))); (case side4 => exact (Kd.R_reads' HO_5.out).2.1); rintro e w59 ⟨rfl, hb⟩; have n0_ := Aside0.mk (Kd.R_below (by (with_reducible repeat (first | apply Kd.R_alloc | apply Kd.R_drewN | apply Kd.R_drew)); exact HO_5.out) hb); have n1_ := Aside0.mk (Kd.R_below (by (with_reducible repeat (first | apply Kd.R_alloc | apply Kd.R_drewN | apply Kd.R_drew)); exact HO418.out) hb); have n2_ := Aside0.mk (Kd.R_below (by (with_reducible repeat (first | apply Kd.R_alloc | apply Kd.R_drewN | apply Kd.R_drew)); exact HO421.out) hb); have n3_ := Aside0.mk (below_step (by repeat (first | (with_reducible first | exact HB.out | apply below_alloc | apply pw_below_drewN | apply below_drew1) | exact HB.out)) hb); clear HO_5; clear HO418; clear HO421; clear HB; have HO_5 := n0_; have HO418 := n1_; have HO421 := n2_; have HB := n3_; clear n0_ n1_ n2_ n3_; (try clear hb); (try clear hb2); (try clear hk); (try clear hi)))
                 go_ret
                 exact ⟨by first | rfl | (simp [errW_none, errW_some] <;> rfl) | (simp [*, errW_none, errW_some] <;> rfl), by repeat (first | (with_reducible first | exact HB.out | apply below_alloc | apply pw_below_drewN | apply below_drew1) | exact HB.out)⟩
                ·replace c52 := Bool.eq_false_iff.mpr c52
                 subst c52
                 have H1 : (some false) = some r := by rw [if_neg (show ¬ (false = true) by decide)] at H; exact H
                 clear H
                 have H := H1
                 clear H1
                 obtain rfl := Option.some.inj H
                 go_wp2_with (first | ((with_reducible refine gate_dst (N := 87) rfl ?_); refine goesL_ (some 87) rfl rfl Try.func28 (by kernel_rfl) rfl #[.slice A0 l0.length c0] rfl (by (try simp only [List.map_toArray, List.map_cons, List.map_nil]); first | done | rfl | (simp only [List.length_drop, List.length_take]; rfl)) ?_; (with_reducible refine (impl_RangesOf.calls kj39 _ _ l0 t416 _ ?side1 ?side2 A49.out).mono ?_); (case side1 => repeat (first | exact (Kd.C_below HR0.out HB.out) | (with_reducible refine Kd.C_alloc ?_ _) | (with_reducible refine Kd.C_drewN ?_ _) | (with_reducible refine Kd.C_drew ?_))); (case side2 => exact HC0.out); rintro e w60 ⟨v417, rfl, ho0, hb⟩; refine ⟨_, rfl, ?_⟩; have n0_ := Aside0.mk (Kd.R_elder' (by (with_reducible repeat (first | apply Kd.R_alloc | apply Kd.R_drewN | apply Kd.R_drew)); exact HO_5.out) (Kd.R_base ho0) hb); have n1_ := Aside0.mk (Kd.R_lower (Kd.R_new' ho0 (Kd.R_lt (by (with_reducible repeat (first | apply Kd.R_alloc | apply Kd.R_drewN | apply Kd.R_drew)); exact HO_5.out))) (below_size (by repeat (first | (with_reducible first | exact HB.out | apply below_alloc | apply pw_below_drewN | apply below_drew1) | exact HB.out)))); have n2_ := Aside0.mk (below_step (by repeat (first | (with_reducible first | exact HB.out | apply below_alloc | apply pw_below_drewN | apply below_drew1) | exact HB.out)) hb); clear HO_5; clear HB; have HO_5 := n0_; have HO418 := n1_; have HB := n2_; clear n0_ n1_ n2_; (try clear hb); (try clear hb2); (try clear hk); (try clear hi); (try clear ho0); obtain ⟨Ao61, co61, eo61⟩ := Kd.R_slice HO_5.out; subst eo61) | ((with_reducible refine gate_dst (N := 89) rfl ?_); refine goesL_ (some 89) rfl rfl Try.func28 (by kernel_rfl) rfl #[.slice Ao61 x5_39.length co61] rfl (by (try simp only [List.map_toArray, List.map_cons, List.map_nil]); first | done | rfl | (simp only [List.length_drop, List.length_take]; rfl)) ?_; (with_reducible refine (impl_RangesOf.calls kj39 _ _ x5_39 t419 _ ?side1 ?side2 A50.out).mono ?_); (case side1 => repeat (first | exact (Kd.R_reads' HO_5.out).2.2 | (with_reducible refine Kd.C_alloc ?_ _) | (with_reducible refine Kd.C_drewN ?_ _) | (with_reducible refine Kd.C_drew ?_))); (case side2 => exact (Kd.R_reads' HO_5.out).2.1); rintro e w62 ⟨v420, rfl, ho0, hb⟩; refine ⟨_, rfl, ?_⟩; have n0_ := Aside0.mk (Kd.R_elder' (by (with_reducible repeat (first | apply Kd.R_alloc | apply Kd.R_drewN | apply Kd.R_drew)); exact HO_5.out) (Kd.R_base ho0) hb); have n1_ := Aside0.mk (Kd.R_elder' (by (with_reducible repeat (first | apply Kd.R_alloc | apply Kd.R_drewN | apply Kd.R_drew)); exact HO418.out) (Kd.R_base ho0) hb); have n2_ := Aside0.mk (Kd.R_lower (Kd.R_new' (Kd.R_new' ho0 (Kd.R_lt (by (with_reducible repeat (first | apply Kd.R_alloc | apply Kd.R_drewN | apply Kd.R_drew)); exact HO_5.out))) (Kd.R_lt (by (with_reducible repeat (first | apply Kd.R_alloc | apply Kd.R_drewN | apply Kd.R_drew)); exact HO418.out))) (below_size (by repeat (first | (with_reducible first | exact HB.out | apply below_alloc | apply pw_below_drewN | apply below_drew1) | exact HB.out)))); have n3_ := Aside0.mk (below_step (by repeat (first | (with_reducible first | exact HB.out | apply below_alloc | apply pw_below_drewN | apply below_drew1) | exact HB.out)) hb); clear HO_5; clear HO418; clear HB; have HO_5 := n0_; have HO418 := n1_; have HO421 := n2_; have HB := n3_; clear n0_ n1_ n2_ n3_; (try clear hb); (try clear hb2); (try clear hk); (try clear hi); (try clear ho0); obtain ⟨Ao63, co63, eo63⟩ := Kd.R_slice HO418.out; subst eo63; obtain ⟨Ao64, co64, eo64⟩ := Kd.R_slice HO421.out; subst eo64) | ((with_reducible refine gate_dst (N := 90) rfl ?_); refine goesL_ (some 90) rfl rfl Try.func25 (by kernel_rfl) rfl #[.slice Ao63 t416.length co63, .slice Ao64 t419.length co64] rfl (by (try simp only [List.map_toArray, List.map_cons, List.map_nil]); first | done | rfl | (simp only [List.length_drop, List.length_take]; rfl)) ?_; (with_reducible refine (spec_RangesSame.calls kj39 _ _ t416 _ _ t419 false _ ?side1 ?side2 ?side3 ?side4 A51.out).mono ?_); (case side1 => repeat (first | exact (Kd.R_reads' HO418.out).2.2 | (with_reducible refine Kd.C_alloc ?_ _) | (with_reducible refine Kd.C_drewN ?_ _) | (with_reducible refine Kd.C_drew ?_))); (case side2 => exact (Kd.R_reads' HO418.out).2.1); (case side3 => repeat (first | exact (Kd.R_reads' HO421.out).2.2 | (with_reducible refine Kd.C_alloc ?_ _) | (with_reducible refine Kd.C_drewN ?_ _) | (with_reducible refine Kd.C_drew ?_))); (case side4 => exact (Kd.R_reads' HO421.out).2.1); rintro e w' ⟨rfl, ⟨nd, rfl⟩⟩; refine ⟨_, rfl, ?_⟩))
                 go_ret
                 exact ⟨by first | rfl | (simp [errW_none, errW_some] <;> rfl) | (simp [*, errW_none, errW_some] <;> rfl), by repeat (first | (with_reducible first | exact HB.out | apply below_alloc | apply pw_below_drewN | apply below_drew1) | exact HB.out)⟩
        ·rw [if_neg c14] at H
         exact absurd H (by simp)
       ·replace c13 := Bool.eq_false_iff.mpr c13
        subst c13
        have H1 : (some false) = some r := by rw [if_neg (show ¬ (false = true) by decide)] at H; exact H
        clear H
        have H := H1
        clear H1
        obtain rfl := Option.some.inj H
        go_wp2_with (first | ((with_reducible refine gate_dst (N := 26) rfl ?_); refine goesL_ (some 26) rfl rfl Try.func13 (by kernel_rfl) rfl #[] rfl (by (try simp only [List.map_toArray, List.map_cons, List.map_nil]); first | done | rfl | (simp only [List.length_drop, List.length_take]; rfl)) ?_; (with_reducible refine (laws_rangeAwake.calls kj5  false _ A12.out).mono ?_); rintro e w65 ⟨rfl, hb⟩; refine ⟨_, rfl, ?_⟩; have n0_ := Aside0.mk (below_step (by repeat (first | (with_reducible first | exact HB.out | apply below_alloc | apply pw_below_drewN | apply below_drew1) | exact HB.out)) hb); clear HB; have HB := n0_; clear n0_; (try clear hb); (try clear hb2); (try clear hk); (try clear hi)))
        go_ret
        exact ⟨by first | rfl | (simp [errW_none, errW_some] <;> rfl) | (simp [*, errW_none, errW_some] <;> rfl), by repeat (first | (with_reducible first | exact HB.out | apply below_alloc | apply pw_below_drewN | apply below_drew1) | exact HB.out)⟩
def laws_FnRangesOrder.Pure : Prop := ∀ (l0 : List (S24)) (l1 : List Int), l0.length ≤ maxLen → (∀ y ∈ l0, (((Lit.int .i64 y.f0).wf = true) ∧ ((Lit.int .i64 y.f1).wf = true))) → l1.length ≤ maxLen → (∀ y ∈ l1, (Lit.int .u8 y).wf = true) → ∃ k, laws_FnRangesOrder.f k l0 l1 = some true
theorem laws_FnRangesOrder.walk (P : laws_FnRangesOrder.Pure) (w : World) (A0 : Option Addr) (c0 : Nat) (l0 : List (S24)) (hr0 : Kd.C k24 w A0 l0.length l0) (hc0 : l0.length ≤ c0) (A1 : Option Addr) (c1 : Nat) (l1 : List Int) (hr1 : Kd.C (Kd.int .u8) w A1 l1.length l1) (hc1 : l1.length ≤ c1) (b0_0 : l0.length ≤ maxLen) (b0_1 : (∀ y ∈ l0, (((Lit.int .i64 y.f0).wf = true) ∧ ((Lit.int .i64 y.f1).wf = true)))) (b1_0 : l1.length ≤ maxLen) (b1_1 : (∀ y ∈ l1, (Lit.int .u8 y).wf = true)) :
  Calls Try.prog 8 #[.slice A0 l0.length c0, .slice A1 l1.length c1] w fun e w' => e = .returned (.bool true) ∧ Below w.heap.size w w' := by
 obtain ⟨k, h⟩ := P l0 l1 b0_0 b0_1 b1_0 b1_1
 refine (laws_FnRangesOrder.calls k A0 c0 l0 A1 c1 l1 true w hr0 hc0 hr1 hc1 h).mono ?_
 rintro e w' ⟨rfl, hd⟩
 exact ⟨rfl, hd⟩

end Go.Proofs.Ytmkhkkfliecfdaa.PT
