/- 12 texts of this claim, one behind the other. -/
import Derived.Test.YtonmnpmklkbioaaDoorProg
import Derived.Below
import Derived.Deep.Draws
import Derived.Deep.AppendLies
import Derived.Maps.AppendAt
import Derived.OwnWalk
import Derived.Laws.BytesArg
import Derived.Laws.MakeOwn
import Derived.Laws.OwnMore
import Derived.Deep.OwnRows
import Derived.Tactics
import Derived.Lib.ConvBytes
import Derived.Laws.Slices
import Derived.WalkKit
import Derived.KernelRfl
import Derived.RowKit3
import Derived.Deep.LoopGhost
import Derived.Deep.QuietTactic
import Derived.BigQuiet
import Derived.WideLaws
import Derived.Deep.DeepCutAuto
import Derived.Deep.CutBlock
import Derived.Deep.RegionHeld3
import Derived.Laws.Rows
import Derived.Lib.AppendStr
import Derived.ArgAppend
import Derived.Laws.IdiomCopy
import Derived.OrdersHeld
import Derived.Laws.BitsLemmas
import Derived.RowKit
import Derived.Test.YtonmnpmklkbioaaDoorWWords
import Derived.Test.YtonmnpmklkbioaaDoorWLast
import Derived.Test.YtonmnpmklkbioaaDoorWTab
import Derived.Test.YtonmnpmklkbioaaDoorWFour
import Derived.Test.YtonmnpmklkbioaaDoorWQPut
import Derived.Test.YtonmnpmklkbioaaDoorWApart
import Derived.Test.YtonmnpmklkbioaaDoorWArr
import Derived.Test.YtonmnpmklkbioaaDoorWZeros
import Derived.Test.YtonmnpmklkbioaaDoorWFoot
import Derived.Test.YtonmnpmklkbioaaDoorWKept
import Derived.Test.YtonmnpmklkbioaaDoorWShare
import Derived.Test.YtonmnpmklkbioaaDoorWN
import Derived.Test.YtonmnpmklkbioaaDoorWFootNe
import Derived.Test.YtonmnpmklkbioaaDoorWAt
import Derived.Test.YtonmnpmklkbioaaDoorWEqStruct
import Derived.Test.YtonmnpmklkbioaaDoorWRepsOne
import Derived.Test.YtonmnpmklkbioaaDoorWInv
import Derived.Test.YtonmnpmklkbioaaDoorWInvWords
import Derived.Test.YtonmnpmklkbioaaDoorWGuard
import Derived.Test.YtonmnpmklkbioaaDoorWNEv
import Derived.Test.YtonmnpmklkbioaaDoorWMore
-- Written by a program of this session.
namespace Go.Proofs.YtonmnpmklkbioaaDoor.PN
open Go.RowKit Go.Proofs.YtonmnpmklkbioaaDoorW.PrintWords Go.Proofs.YtonmnpmklkbioaaDoorW.PrintLast Go.Proofs.YtonmnpmklkbioaaDoorW.PrintMore
attribute [local go_sem] max2_int min2_int max_two min_two max_three min_three max_four min_four   -- for this text's walks alone
set_option linter.unusedVariables false
set_option linter.unusedSimpArgs false
def errW : Option Int → Value
  | none => .nilIface
  | some c => .iface 114 (.int .i64 c)
theorem errW_none : errW none = .nilIface := rfl
theorem errW_some (c : Int) : errW (some c) = .iface 114 (.int .i64 c) := rfl
-- the values' own types
/-! #### struct type 27 -/
structure S27 where
  f0 : Int
  f1 : ByteArray
/-! #### struct type 52 -/
structure S52 where
  f0 : ByteArray
  f1 : Int
  f2 : Bool
def z52 : S52 := ⟨(⟨#[]⟩ : ByteArray), (0 : Int), false⟩
def k52 : Kd S52 := Kd.iso (Kd.pair Kd.string (Kd.pair (Kd.int .i32) Kd.bool)) (fun x : S52 => (x.f0, x.f1, x.f2))
theorem k52_open {w : World} {x : S52} {cs : List Value} (h : k52.K w x cs) : cs = [.string x.f0, .int .i32 x.f1, .bool x.f2] := by
  obtain ⟨_, _, rfl, rfl, ⟨_, _, rfl, rfl, rfl⟩⟩ := h
  exact rfl
theorem k52_mkM (w : World) (base : Nat) (ok : Nat → Prop) (x : S52)  : k52.M w base ok x [.string x.f0, .int .i32 x.f1, .bool x.f2] := ⟨[.string x.f0], [.int .i32 x.f1, .bool x.f2], rfl, rfl, ⟨[.int .i32 x.f1], [.bool x.f2], rfl, rfl, rfl⟩⟩
def rd_T52 (xs : List S52) (i : Int) : S52 := xs.getD i.toNat z52
theorem at_T52 {w : World} {A : Option Addr} {n : Nat} {xs : List S52} (h : Kd.C k52 w A n xs) (i : Int) (h0 : 0 ≤ i) (h1 : i < n) : ∃ ad , A = some ad ∧ w.cell? (ad.add (i.toNat * 3)) = some (.string (rd_T52 xs i).f0) ∧ w.cell? ⟨(ad.add (i.toNat * 3)).block, (ad.add (i.toNat * 3)).off + 1, none⟩ = some (.int .i32 (rd_T52 xs i).f1) ∧ w.cell? ⟨(ad.add (i.toNat * 3)).block, (ad.add (i.toNat * 3)).off + 2, none⟩ = some (.bool (rd_T52 xs i).f2) := by
  obtain ⟨ad, c, e, _, hK, hc0⟩ := Kd.C_get h z52 i h0 h1
  have hc : ∀ j u, c[j]? = some u → w.cell? (ad.add (i.toNat * 3 + j)) = some u := hc0
  obtain rfl := k52_open hK
  exact ⟨ad, e, hc 0 _ rfl, by rw [← add_field _ _ 1 (by omega)]; exact hc 1 _ rfl, by rw [← add_field _ _ 2 (by omega)]; exact hc 2 _ rfl⟩
end Go.Proofs.YtonmnpmklkbioaaDoor.PN
-- Written by a program of this session.
namespace Go.Proofs.YtonmnpmklkbioaaDoor.PN
open Go.RowKit Go.Proofs.YtonmnpmklkbioaaDoorW.PrintWords Go.Proofs.YtonmnpmklkbioaaDoorW.PrintLast Go.Proofs.YtonmnpmklkbioaaDoorW.PrintMore
attribute [local go_sem] max2_int min2_int max_two min_two max_three min_three max_four min_four   -- for this text's walks alone
set_option linter.unusedVariables false
set_option linter.unusedSimpArgs false
end Go.Proofs.YtonmnpmklkbioaaDoor.PN
-- Written by a program of this session.
namespace Go.Proofs.YtonmnpmklkbioaaDoor.PN
open Go.RowKit Go.Proofs.YtonmnpmklkbioaaDoorW.PrintWords Go.Proofs.YtonmnpmklkbioaaDoorW.PrintLast Go.Proofs.YtonmnpmklkbioaaDoorW.PrintMore
attribute [local go_sem] max2_int min2_int max_two min_two max_three min_three max_four min_four   -- for this text's walks alone
set_option linter.unusedVariables false
set_option linter.unusedSimpArgs false
/-! ### encoder_MultiEncoder_Has: function 56 -/
def encoder_MultiEncoder_Has.f (a0 : Int) (a1 : Int) : Option (Bool) := some ((Go.bits .and .u64 a0 a1) != 0)
set_option maxHeartbeats 8000000 in
set_option maxRecDepth 100000 in
theorem encoder_MultiEncoder_Has.calls (a0 : Int) (a1 : Int) (r : Bool) (w : World) (h : encoder_MultiEncoder_Has.f a0 a1 = some r) :
    Calls Tryd.prog 56 #[.int .u64 a0, .int .u64 a1] w fun e w' => e = .returned (.bool r) ∧ Drawn0 w w' := by
  have H : (some ((Go.bits .and .u64 a0 a1) != 0)) = some r := h
  clear h
  obtain rfl := Option.some.inj H
  go_enter Tryd.func56, Tryd.ntmps56
  go_wp2
  go_ret
  exact ⟨by first | rfl | (simp; done) | (simp [*]; done), by repeat (first | exact Drawn0.refl _ | apply Drawn0.step)⟩
end Go.Proofs.YtonmnpmklkbioaaDoor.PN
-- Written by a program of this session.
namespace Go.Proofs.YtonmnpmklkbioaaDoor.PN
open Go.RowKit Go.Proofs.YtonmnpmklkbioaaDoorW.PrintWords Go.Proofs.YtonmnpmklkbioaaDoorW.PrintLast Go.Proofs.YtonmnpmklkbioaaDoorW.PrintMore
attribute [local go_sem] max2_int min2_int max_two min_two max_three min_three max_four min_four   -- for this text's walks alone
set_option linter.unusedVariables false
set_option linter.unusedSimpArgs false
/-! ### laws_encShort: function 16 -/
def laws_encShort.l0 : Nat → Int → List ByteArray → Int → Int → Option (Bool)
  | 0, _, _, _, _ => none
  | k + 1, x3, x6, x7, x8 => if x8 < x7 then (if 0 ≤ x8 then (if x8 < (x6.length : Int) then (laws_encShort.l0 k (wrap64 (x3 + ((rdOf ByteArray.empty x6 x8).size : Int))) x6 x7 (wrap64 (x8 + 1))) else (none)) else (none)) else (some (decide (x3 ≤ 65536)))
def laws_encShort.f (k : Nat) (l0 : List ByteArray) : Option (Bool) := laws_encShort.l0 k 0 l0 (l0.length : Int) 0
theorem laws_encShort.mono_l : ∀ k, (∀ y0 y1 y2 y3, LeO (laws_encShort.l0 k y0 y1 y2 y3) (laws_encShort.l0 (k + 1) y0 y1 y2 y3))
  | 0 => fun _ _ _ _ r h => by simp [laws_encShort.l0] at h
  | k + 1 => by
    have ih0 := laws_encShort.mono_l k
    · intro y0 y1 y2 y3
      unfold laws_encShort.l0
      repeat' first
      | (with_reducible exact ih0 _ _ _ _)
      | (with_reducible exact LeO.refl _)
      | (with_reducible exact LeO.none _)
      | (with_reducible refine LeO.ite ?_ ?_)
      | (with_reducible refine LeO.bind ?_ (fun _ => ?_))
      | exact ih0 _ _ _ _
      | exact LeO.none _
      | refine LeO.ite ?_ ?_
      | refine LeO.bind ?_ (fun _ => ?_)
theorem laws_encShort.mono : ∀ a0 k, LeO (laws_encShort.f k a0) (laws_encShort.f (k + 1) a0) := by
  intro a0 k
  have ih0 := laws_encShort.mono_l k
  unfold laws_encShort.f
  repeat' first
      | (with_reducible exact ih0 _ _ _ _)
      | (with_reducible exact LeO.refl _)
      | (with_reducible exact LeO.none _)
      | (with_reducible refine LeO.ite ?_ ?_)
      | (with_reducible refine LeO.bind ?_ (fun _ => ?_))
      | exact ih0 _ _ _ _
      | exact LeO.none _
      | refine LeO.ite ?_ ?_
      | refine LeO.bind ?_ (fun _ => ?_)
set_option maxHeartbeats 8000000 in
set_option maxRecDepth 100000 in
theorem laws_encShort.calls (k : Nat) (A0 : Option Addr) (c0 : Nat) (l0 : List ByteArray) (r : Bool) (w : World) (hr0 : Kd.C Kd.string w A0 l0.length l0) (hc0 : l0.length ≤ c0) (h : laws_encShort.f k l0 = some r) :
    Calls Tryd.prog 16 #[.slice A0 l0.length c0] w fun e w' => e = .returned (.bool r) ∧ Drawn0 w w' := by
  have HR0 := Aside0.mk hr0
  have HC0 := Aside0.mk hc0
  clear hr0 hc0
  have H : (laws_encShort.l0 k 0 l0 (l0.length : Int) 0) = some r := h
  clear h
  have H' := Aside0.mk H
  clear H
  go_enter Tryd.func16, Tryd.ntmps16
  go_wp2
  go_loopg [3, 8] k (fun kq v3 v8 w' => ∃ (x3_1 : Int) (x8_1 : Int), v3 = .int .i64 x3_1 ∧ v8 = .int .i64 x8_1 ∧ Aside0 (laws_encShort.l0 kq x3_1 l0 (l0.length : Int) x8_1 = some r) ∧ Aside0 (kq ≤ k) ∧ Drawn0 w w')
  case atStart => exact ⟨(0), (0), (by first | rfl | (simp; done) | (simp [*]; done)), (by first | rfl | (simp; done) | (simp [*]; done)), H', ⟨Nat.le_refl _⟩, by repeat (first | exact Drawn0.refl _ | apply Drawn0.step)⟩
  case round =>
    clear H'
    try clear c1
    obtain ⟨x3_1, x8_1, rfl, rfl, HA, HK1, ⟨m1, rfl⟩⟩ := hrel
    cases gk with
    | zero => exact absurd HA.out (by simp [laws_encShort.l0])
    | succ k1 =>
      have H := HA.out
      clear HA
      simp only [laws_encShort.l0] at H
      by_cases c2 : x8_1 < (l0.length : Int)
      · rw [if_pos c2] at H
        have c2b0 : decide (x8_1 < (l0.length : Int)) = true := decide_eq_true c2
        clear c2
        by_cases c3 : 0 ≤ x8_1
        · rw [if_pos c3] at H
          have c3b0 : decide (0 ≤ x8_1) = true := decide_eq_true c3
          clear c3
          by_cases c4 : x8_1 < (l0.length : Int)
          · rw [if_pos c4] at H
            have c4b0 : decide (x8_1 < (l0.length : Int)) = true := decide_eq_true c4
            clear c4
            have H' := Aside0.mk H
            clear H
            have p155 : 0 ≤ (x8_1 : Int) := of_decide_eq_true (by first | (with_reducible assumption) | assumption)
            have q155 : x8_1 < (l0.length : Int) := of_decide_eq_true (by first | (with_reducible assumption) | assumption)
            obtain ⟨ad155, e155, hx155_0⟩ := Kd.at_string HR0.out x8_1 p155 q155
            cases e155
            replace p155 := eq_true p155
            replace q155 := eq_true q155
            go_wp2
            go_roundg k1
            case measure => have := HK1.out; omega
            case rel => exact ⟨(wrap64 (x3_1 + ((rdOf ByteArray.empty l0 x8_1).size : Int))), (wrap64 (x8_1 + 1)), (by first | rfl | (simp; done) | (simp [*]; done)), (by first | rfl | (simp; done) | (simp [*]; done)), H', ⟨by have := HK1.out; omega⟩, by repeat (first | exact Drawn0.refl _ | apply Drawn0.step)⟩
          · rw [if_neg c4] at H
            exact absurd H (by simp)
        · rw [if_neg c3] at H
          exact absurd H (by simp)
      · rw [if_neg c2] at H
        have c2b0 : decide (x8_1 < (l0.length : Int)) = false := decide_eq_false c2
        clear c2
        obtain rfl := Option.some.inj H
        go_wp2
        go_ret
        exact ⟨by first | rfl | (simp; done) | (simp [*]; done), by repeat (first | exact Drawn0.refl _ | apply Drawn0.step)⟩
end Go.Proofs.YtonmnpmklkbioaaDoor.PN
-- Written by a program of this session.
namespace Go.Proofs.YtonmnpmklkbioaaDoor.PN
open Go.RowKit Go.Proofs.YtonmnpmklkbioaaDoorW.PrintWords Go.Proofs.YtonmnpmklkbioaaDoorW.PrintLast Go.Proofs.YtonmnpmklkbioaaDoorW.PrintMore
attribute [local go_sem] max2_int min2_int max_two min_two max_three min_three max_four min_four   -- for this text's walks alone
set_option linter.unusedVariables false
set_option linter.unusedSimpArgs false
/-! ### spec_SignOf: function 45 -/
def spec_SignOf.j0 : Nat → Int → Bool → Option (Int)
  | 0, _, _ => none
  | k + 1, x0, x3 => if x3 = true then (some (wrap32 (x0 - 9216))) else (if x0 = 9249 then (some 127) else (if 65281 ≤ x0 then (if x0 ≤ 65374 then (some (wrap32 (x0 - 65248))) else (some (-1))) else (some (-1))))
def spec_SignOf.f (k : Nat) (a0 : Int) : Option (Int) := if 9216 ≤ a0 then (spec_SignOf.j0 k a0 (decide (a0 ≤ 9248))) else (spec_SignOf.j0 k a0 false)
theorem spec_SignOf.mono_l : ∀ k, (∀ y0 y1, LeO (spec_SignOf.j0 k y0 y1) (spec_SignOf.j0 (k + 1) y0 y1))
  | 0 => fun _ _ r h => by simp [spec_SignOf.j0] at h
  | k + 1 => by
    have ih0 := spec_SignOf.mono_l k
    · intro y0 y1
      unfold spec_SignOf.j0
      repeat' first
      | (with_reducible exact ih0 _ _)
      | (with_reducible exact LeO.refl _)
      | (with_reducible exact LeO.none _)
      | (with_reducible refine LeO.ite ?_ ?_)
      | (with_reducible refine LeO.bind ?_ (fun _ => ?_))
      | exact ih0 _ _
      | exact LeO.none _
      | refine LeO.ite ?_ ?_
      | refine LeO.bind ?_ (fun _ => ?_)
theorem spec_SignOf.mono : ∀ a0 k, LeO (spec_SignOf.f k a0) (spec_SignOf.f (k + 1) a0) := by
  intro a0 k
  have ih0 := spec_SignOf.mono_l k
  unfold spec_SignOf.f
  repeat' first
      | (with_reducible exact ih0 _ _)
      | (with_reducible exact LeO.refl _)
      | (with_reducible exact LeO.none _)
      | (with_reducible refine LeO.ite ?_ ?_)
      | (with_reducible refine LeO.bind ?_ (fun _ => ?_))
      | exact ih0 _ _
      | exact LeO.none _
      | refine LeO.ite ?_ ?_
      | refine LeO.bind ?_ (fun _ => ?_)
set_option maxHeartbeats 8000000 in
set_option maxRecDepth 100000 in
theorem spec_SignOf.calls (k : Nat) (a0 : Int) (r : Int) (w : World) (h : spec_SignOf.f k a0 = some r) :
    Calls Tryd.prog 45 #[.int .i32 a0] w fun e w' => e = .returned (.int .i32 r) ∧ Drawn0 w w' := by
  have H : (if 9216 ≤ a0 then (spec_SignOf.j0 k a0 (decide (a0 ≤ 9248))) else (spec_SignOf.j0 k a0 false)) = some r := h
  clear h
  have HC2 := Aside0.mk H
  clear H
  go_enter Tryd.func45, Tryd.ntmps45
  go_upto_region 1 with (fail)
  go_cut [3] (fun v3 wc => ∃ (kq : Nat) (x3_1 : Bool), v3 = .bool x3_1 ∧ Aside0 (spec_SignOf.j0 kq a0 x3_1 = some r) ∧ Aside0 (kq ≤ k) ∧ Drawn0 w wc)
  case first =>
    have H := HC2.out
    clear HC2
    by_cases c3 : 9216 ≤ a0
    · rw [if_pos c3] at H
      have c3b0 : decide (9216 ≤ a0) = true := decide_eq_true c3
      clear c3
      (first | rw [c3b0] | (simp only [i64_w, i32_w]; rw [c3b0]) | skip)
      have H' := Aside0.mk H
      clear H
      go_wp2
      go_meet
      case rel => exact ⟨_, (decide (a0 ≤ 9248)), (by first | rfl | (simp; done) | (simp [*]; done)), H', ⟨by first | omega | exact Nat.le_refl _⟩, by repeat (first | exact Drawn0.refl _ | apply Drawn0.step)⟩
    · rw [if_neg c3] at H
      have c3b0 : decide (9216 ≤ a0) = false := decide_eq_false c3
      clear c3
      (first | rw [c3b0] | (simp only [i64_w, i32_w]; rw [c3b0]) | skip)
      have H' := Aside0.mk H
      clear H
      go_wp2
      go_meet
      case rel => exact ⟨_, (false), (by first | rfl | (simp; done) | (simp [*]; done)), H', ⟨by first | omega | exact Nat.le_refl _⟩, by repeat (first | exact Drawn0.refl _ | apply Drawn0.step)⟩
  case rest =>
    clear HC2
    try clear p2
    try clear c3
    try clear c3b0
    obtain ⟨kq, x3_1, rfl, HA, HJ1, ⟨mc1, rfl⟩⟩ := hcut
    cases kq with
    | zero => exact absurd HA.out (by simp [spec_SignOf.j0])
    | succ kj1 =>
      have H := HA.out
      clear HA
      simp only [spec_SignOf.j0] at H
      by_cases c4 : x3_1 = true
      · subst c4
        have H1 : (some (wrap32 (a0 - 9216))) = some r := by rw [if_pos rfl] at H; exact H
        clear H
        have H := H1
        clear H1
        obtain rfl := Option.some.inj H
        go_wp2
        go_ret
        exact ⟨by first | rfl | (simp; done) | (simp [*]; done), by repeat (first | exact Drawn0.refl _ | apply Drawn0.step)⟩
      · replace c4 := Bool.eq_false_iff.mpr c4
        subst c4
        have H1 : (if a0 = 9249 then (some 127) else (if 65281 ≤ a0 then (if a0 ≤ 65374 then (some (wrap32 (a0 - 65248))) else (some (-1))) else (some (-1)))) = some r := by rw [if_neg (show ¬ (false = true) by decide)] at H; exact H
        clear H
        have H := H1
        clear H1
        by_cases c5 : a0 = 9249
        · rw [if_pos c5] at H
          have c5b0 : (a0 == 9249) = true := beq_iff_eq.mpr c5
          have c5b1 : (a0 != 9249) = false := bne_eq_false_iff_eq.mpr c5
          clear c5
          obtain rfl := Option.some.inj H
          go_wp2
          go_ret
          exact ⟨by first | rfl | (simp; done) | (simp [*]; done), by repeat (first | exact Drawn0.refl _ | apply Drawn0.step)⟩
        · rw [if_neg c5] at H
          have c5b0 : (a0 == 9249) = false := beq_eq_false_iff_ne.mpr c5
          have c5b1 : (a0 != 9249) = true := bne_iff_ne.mpr c5
          by_cases c6 : 65281 ≤ a0
          · rw [if_pos c6] at H
            have c6b0 : decide (65281 ≤ a0) = true := decide_eq_true c6
            clear c6
            by_cases c7 : a0 ≤ 65374
            · rw [if_pos c7] at H
              have c7b0 : decide (a0 ≤ 65374) = true := decide_eq_true c7
              clear c7
              obtain rfl := Option.some.inj H
              go_wp2
              go_ret
              exact ⟨by first | rfl | (simp; done) | (simp [*]; done), by repeat (first | exact Drawn0.refl _ | apply Drawn0.step)⟩
            · rw [if_neg c7] at H
              have c7b0 : decide (a0 ≤ 65374) = false := decide_eq_false c7
              clear c7
              obtain rfl := Option.some.inj H
              go_wp2
              go_ret
              exact ⟨by first | rfl | (simp; done) | (simp [*]; done), by repeat (first | exact Drawn0.refl _ | apply Drawn0.step)⟩
          · rw [if_neg c6] at H
            have c6b0 : decide (65281 ≤ a0) = false := decide_eq_false c6
            clear c6
            obtain rfl := Option.some.inj H
            go_wp2
            go_ret
            exact ⟨by first | rfl | (simp; done) | (simp [*]; done), by repeat (first | exact Drawn0.refl _ | apply Drawn0.step)⟩
end Go.Proofs.YtonmnpmklkbioaaDoor.PN
-- Written by a program of this session.
namespace Go.Proofs.YtonmnpmklkbioaaDoor.PN
open Go.RowKit Go.Proofs.YtonmnpmklkbioaaDoorW.PrintWords Go.Proofs.YtonmnpmklkbioaaDoorW.PrintLast Go.Proofs.YtonmnpmklkbioaaDoorW.PrintMore
attribute [local go_sem] max2_int min2_int max_two min_two max_three min_three max_four min_four   -- for this text's walks alone
set_option linter.unusedVariables false
set_option linter.unusedSimpArgs false
/-! ### spec_Sign: function 66 -/
def spec_Sign.f (a0 : Int) : Option (Int) := if a0 ≤ 32 then (some (wrap32 (9216 + a0))) else (if a0 = 127 then (some 9249) else (some (wrap32 (a0 + 65248))))
set_option maxHeartbeats 8000000 in
set_option maxRecDepth 100000 in
theorem spec_Sign.calls (a0 : Int) (r : Int) (w : World) (h : spec_Sign.f a0 = some r) :
    Calls Tryd.prog 66 #[.int .i32 a0] w fun e w' => e = .returned (.int .i32 r) ∧ Drawn0 w w' := by
  have H : (if a0 ≤ 32 then (some (wrap32 (9216 + a0))) else (if a0 = 127 then (some 9249) else (some (wrap32 (a0 + 65248))))) = some r := h
  clear h
  by_cases c2 : a0 ≤ 32
  · rw [if_pos c2] at H
    have c2b0 : decide (a0 ≤ 32) = true := decide_eq_true c2
    clear c2
    obtain rfl := Option.some.inj H
    go_enter Tryd.func66, Tryd.ntmps66
    go_wp2
    go_ret
    exact ⟨by first | rfl | (simp; done) | (simp [*]; done), by repeat (first | exact Drawn0.refl _ | apply Drawn0.step)⟩
  · rw [if_neg c2] at H
    have c2b0 : decide (a0 ≤ 32) = false := decide_eq_false c2
    clear c2
    by_cases c3 : a0 = 127
    · rw [if_pos c3] at H
      have c3b0 : (a0 == 127) = true := beq_iff_eq.mpr c3
      have c3b1 : (a0 != 127) = false := bne_eq_false_iff_eq.mpr c3
      clear c3
      obtain rfl := Option.some.inj H
      go_enter Tryd.func66, Tryd.ntmps66
      go_wp2
      go_ret
      exact ⟨by first | rfl | (simp; done) | (simp [*]; done), by repeat (first | exact Drawn0.refl _ | apply Drawn0.step)⟩
    · rw [if_neg c3] at H
      have c3b0 : (a0 == 127) = false := beq_eq_false_iff_ne.mpr c3
      have c3b1 : (a0 != 127) = true := bne_iff_ne.mpr c3
      obtain rfl := Option.some.inj H
      go_enter Tryd.func66, Tryd.ntmps66
      go_wp2
      go_ret
      exact ⟨by first | rfl | (simp; done) | (simp [*]; done), by repeat (first | exact Drawn0.refl _ | apply Drawn0.step)⟩
end Go.Proofs.YtonmnpmklkbioaaDoor.PN
-- Written by a program of this session.
namespace Go.Proofs.YtonmnpmklkbioaaDoor.PN
open Go.RowKit Go.Proofs.YtonmnpmklkbioaaDoorW.PrintWords Go.Proofs.YtonmnpmklkbioaaDoorW.PrintLast Go.Proofs.YtonmnpmklkbioaaDoorW.PrintMore
attribute [local go_sem] max2_int min2_int max_two min_two max_three min_three max_four min_four   -- for this text's walks alone
set_option linter.unusedVariables false
set_option linter.unusedSimpArgs false
/-! ### spec_TakesRight: function 42 -/
def spec_TakesRight.f (a0 : Int) (a1 : Int) : Option (Bool) := if a1 = 32 then (some ((Go.bits .and .u64 a0 2097152) != 0)) else (if a1 = 46 then (some ((Go.bits .and .u64 a0 4194304) != 0)) else (if a1 = 13 then (some ((Go.bits .and .u64 a0 8388608) != 0)) else (if a1 = 10 then (some ((Go.bits .and .u64 a0 8388608) != 0)) else (if a1 = 9 then (some ((Go.bits .and .u64 a0 8388608) != 0)) else (if a1 = 11 then (some ((Go.bits .and .u64 a0 8388608) != 0)) else (some false))))))
set_option maxHeartbeats 8000000 in
set_option maxRecDepth 100000 in
theorem spec_TakesRight.calls (a0 : Int) (a1 : Int) (r : Bool) (w : World) (h : spec_TakesRight.f a0 a1 = some r) :
    Calls Tryd.prog 42 #[.int .u64 a0, .int .i32 a1] w fun e w' => e = .returned (.bool r) ∧ Drawn0 w w' := by
  have H : (if a1 = 32 then (some ((Go.bits .and .u64 a0 2097152) != 0)) else (if a1 = 46 then (some ((Go.bits .and .u64 a0 4194304) != 0)) else (if a1 = 13 then (some ((Go.bits .and .u64 a0 8388608) != 0)) else (if a1 = 10 then (some ((Go.bits .and .u64 a0 8388608) != 0)) else (if a1 = 9 then (some ((Go.bits .and .u64 a0 8388608) != 0)) else (if a1 = 11 then (some ((Go.bits .and .u64 a0 8388608) != 0)) else (some false))))))) = some r := h
  clear h
  by_cases c3 : a1 = 32
  · rw [if_pos c3] at H
    have c3b0 : (a1 == 32) = true := beq_iff_eq.mpr c3
    have c3b1 : (a1 != 32) = false := bne_eq_false_iff_eq.mpr c3
    clear c3
    obtain rfl := Option.some.inj H
    go_enter Tryd.func42, Tryd.ntmps42
    go_wp2
    go_ret
    exact ⟨by first | rfl | (simp; done) | (simp [*]; done), by repeat (first | exact Drawn0.refl _ | apply Drawn0.step)⟩
  · rw [if_neg c3] at H
    have c3b0 : (a1 == 32) = false := beq_eq_false_iff_ne.mpr c3
    have c3b1 : (a1 != 32) = true := bne_iff_ne.mpr c3
    by_cases c4 : a1 = 46
    · rw [if_pos c4] at H
      have c4b0 : (a1 == 46) = true := beq_iff_eq.mpr c4
      have c4b1 : (a1 != 46) = false := bne_eq_false_iff_eq.mpr c4
      clear c4
      obtain rfl := Option.some.inj H
      go_enter Tryd.func42, Tryd.ntmps42
      go_wp2
      go_ret
      exact ⟨by first | rfl | (simp; done) | (simp [*]; done), by repeat (first | exact Drawn0.refl _ | apply Drawn0.step)⟩
    · rw [if_neg c4] at H
      have c4b0 : (a1 == 46) = false := beq_eq_false_iff_ne.mpr c4
      have c4b1 : (a1 != 46) = true := bne_iff_ne.mpr c4
      by_cases c5 : a1 = 13
      · rw [if_pos c5] at H
        have c5b0 : (a1 == 13) = true := beq_iff_eq.mpr c5
        have c5b1 : (a1 != 13) = false := bne_eq_false_iff_eq.mpr c5
        clear c5
        obtain rfl := Option.some.inj H
        go_enter Tryd.func42, Tryd.ntmps42
        go_wp2
        go_ret
        exact ⟨by first | rfl | (simp; done) | (simp [*]; done), by repeat (first | exact Drawn0.refl _ | apply Drawn0.step)⟩
      · rw [if_neg c5] at H
        have c5b0 : (a1 == 13) = false := beq_eq_false_iff_ne.mpr c5
        have c5b1 : (a1 != 13) = true := bne_iff_ne.mpr c5
        by_cases c6 : a1 = 10
        · rw [if_pos c6] at H
          have c6b0 : (a1 == 10) = true := beq_iff_eq.mpr c6
          have c6b1 : (a1 != 10) = false := bne_eq_false_iff_eq.mpr c6
          clear c6
          obtain rfl := Option.some.inj H
          go_enter Tryd.func42, Tryd.ntmps42
          go_wp2
          go_ret
          exact ⟨by first | rfl | (simp; done) | (simp [*]; done), by repeat (first | exact Drawn0.refl _ | apply Drawn0.step)⟩
        · rw [if_neg c6] at H
          have c6b0 : (a1 == 10) = false := beq_eq_false_iff_ne.mpr c6
          have c6b1 : (a1 != 10) = true := bne_iff_ne.mpr c6
          by_cases c7 : a1 = 9
          · rw [if_pos c7] at H
            have c7b0 : (a1 == 9) = true := beq_iff_eq.mpr c7
            have c7b1 : (a1 != 9) = false := bne_eq_false_iff_eq.mpr c7
            clear c7
            obtain rfl := Option.some.inj H
            go_enter Tryd.func42, Tryd.ntmps42
            go_wp2
            go_ret
            exact ⟨by first | rfl | (simp; done) | (simp [*]; done), by repeat (first | exact Drawn0.refl _ | apply Drawn0.step)⟩
          · rw [if_neg c7] at H
            have c7b0 : (a1 == 9) = false := beq_eq_false_iff_ne.mpr c7
            have c7b1 : (a1 != 9) = true := bne_iff_ne.mpr c7
            by_cases c8 : a1 = 11
            · rw [if_pos c8] at H
              have c8b0 : (a1 == 11) = true := beq_iff_eq.mpr c8
              have c8b1 : (a1 != 11) = false := bne_eq_false_iff_eq.mpr c8
              clear c8
              obtain rfl := Option.some.inj H
              go_enter Tryd.func42, Tryd.ntmps42
              go_wp2
              go_ret
              exact ⟨by first | rfl | (simp; done) | (simp [*]; done), by repeat (first | exact Drawn0.refl _ | apply Drawn0.step)⟩
            · rw [if_neg c8] at H
              have c8b0 : (a1 == 11) = false := beq_eq_false_iff_ne.mpr c8
              have c8b1 : (a1 != 11) = true := bne_iff_ne.mpr c8
              obtain rfl := Option.some.inj H
              go_enter Tryd.func42, Tryd.ntmps42
              go_wp2
              go_ret
              exact ⟨by first | rfl | (simp; done) | (simp [*]; done), by repeat (first | exact Drawn0.refl _ | apply Drawn0.step)⟩
end Go.Proofs.YtonmnpmklkbioaaDoor.PN
-- Written by a program of this session.
namespace Go.Proofs.YtonmnpmklkbioaaDoor.PN
open Go.RowKit Go.Proofs.YtonmnpmklkbioaaDoorW.PrintWords Go.Proofs.YtonmnpmklkbioaaDoorW.PrintLast Go.Proofs.YtonmnpmklkbioaaDoorW.PrintMore
attribute [local go_sem] max2_int min2_int max_two min_two max_three min_three max_four min_four   -- for this text's walks alone
set_option linter.unusedVariables false
set_option linter.unusedSimpArgs false
/-! ### spec_TakesLeft: function 40 -/
def spec_TakesLeft.f (a0 : Int) (a1 : Int) : Option (Bool) := if a1 = 32 then (some ((Go.bits .and .u64 a0 131072) != 0)) else (if a1 = 46 then (some ((Go.bits .and .u64 a0 262144) != 0)) else (if a1 = 126 then (some ((Go.bits .and .u64 a0 524288) != 0)) else (if a1 = 13 then (some ((Go.bits .and .u64 a0 1048576) != 0)) else (if a1 = 10 then (some ((Go.bits .and .u64 a0 1048576) != 0)) else (if a1 = 9 then (some ((Go.bits .and .u64 a0 1048576) != 0)) else (if a1 = 11 then (some ((Go.bits .and .u64 a0 1048576) != 0)) else (some false)))))))
set_option maxHeartbeats 8000000 in
set_option maxRecDepth 100000 in
theorem spec_TakesLeft.calls (a0 : Int) (a1 : Int) (r : Bool) (w : World) (h : spec_TakesLeft.f a0 a1 = some r) :
    Calls Tryd.prog 40 #[.int .u64 a0, .int .i32 a1] w fun e w' => e = .returned (.bool r) ∧ Drawn0 w w' := by
  have H : (if a1 = 32 then (some ((Go.bits .and .u64 a0 131072) != 0)) else (if a1 = 46 then (some ((Go.bits .and .u64 a0 262144) != 0)) else (if a1 = 126 then (some ((Go.bits .and .u64 a0 524288) != 0)) else (if a1 = 13 then (some ((Go.bits .and .u64 a0 1048576) != 0)) else (if a1 = 10 then (some ((Go.bits .and .u64 a0 1048576) != 0)) else (if a1 = 9 then (some ((Go.bits .and .u64 a0 1048576) != 0)) else (if a1 = 11 then (some ((Go.bits .and .u64 a0 1048576) != 0)) else (some false)))))))) = some r := h
  clear h
  by_cases c3 : a1 = 32
  · rw [if_pos c3] at H
    have c3b0 : (a1 == 32) = true := beq_iff_eq.mpr c3
    have c3b1 : (a1 != 32) = false := bne_eq_false_iff_eq.mpr c3
    clear c3
    obtain rfl := Option.some.inj H
    go_enter Tryd.func40, Tryd.ntmps40
    go_wp2
    go_ret
    exact ⟨by first | rfl | (simp; done) | (simp [*]; done), by repeat (first | exact Drawn0.refl _ | apply Drawn0.step)⟩
  · rw [if_neg c3] at H
    have c3b0 : (a1 == 32) = false := beq_eq_false_iff_ne.mpr c3
    have c3b1 : (a1 != 32) = true := bne_iff_ne.mpr c3
    by_cases c4 : a1 = 46
    · rw [if_pos c4] at H
      have c4b0 : (a1 == 46) = true := beq_iff_eq.mpr c4
      have c4b1 : (a1 != 46) = false := bne_eq_false_iff_eq.mpr c4
      clear c4
      obtain rfl := Option.some.inj H
      go_enter Tryd.func40, Tryd.ntmps40
      go_wp2
      go_ret
      exact ⟨by first | rfl | (simp; done) | (simp [*]; done), by repeat (first | exact Drawn0.refl _ | apply Drawn0.step)⟩
    · rw [if_neg c4] at H
      have c4b0 : (a1 == 46) = false := beq_eq_false_iff_ne.mpr c4
      have c4b1 : (a1 != 46) = true := bne_iff_ne.mpr c4
      by_cases c5 : a1 = 126
      · rw [if_pos c5] at H
        have c5b0 : (a1 == 126) = true := beq_iff_eq.mpr c5
        have c5b1 : (a1 != 126) = false := bne_eq_false_iff_eq.mpr c5
        clear c5
        obtain rfl := Option.some.inj H
        go_enter Tryd.func40, Tryd.ntmps40
        go_wp2
        go_ret
        exact ⟨by first | rfl | (simp; done) | (simp [*]; done), by repeat (first | exact Drawn0.refl _ | apply Drawn0.step)⟩
      · rw [if_neg c5] at H
        have c5b0 : (a1 == 126) = false := beq_eq_false_iff_ne.mpr c5
        have c5b1 : (a1 != 126) = true := bne_iff_ne.mpr c5
        by_cases c6 : a1 = 13
        · rw [if_pos c6] at H
          have c6b0 : (a1 == 13) = true := beq_iff_eq.mpr c6
          have c6b1 : (a1 != 13) = false := bne_eq_false_iff_eq.mpr c6
          clear c6
          obtain rfl := Option.some.inj H
          go_enter Tryd.func40, Tryd.ntmps40
          go_wp2
          go_ret
          exact ⟨by first | rfl | (simp; done) | (simp [*]; done), by repeat (first | exact Drawn0.refl _ | apply Drawn0.step)⟩
        · rw [if_neg c6] at H
          have c6b0 : (a1 == 13) = false := beq_eq_false_iff_ne.mpr c6
          have c6b1 : (a1 != 13) = true := bne_iff_ne.mpr c6
          by_cases c7 : a1 = 10
          · rw [if_pos c7] at H
            have c7b0 : (a1 == 10) = true := beq_iff_eq.mpr c7
            have c7b1 : (a1 != 10) = false := bne_eq_false_iff_eq.mpr c7
            clear c7
            obtain rfl := Option.some.inj H
            go_enter Tryd.func40, Tryd.ntmps40
            go_wp2
            go_ret
            exact ⟨by first | rfl | (simp; done) | (simp [*]; done), by repeat (first | exact Drawn0.refl _ | apply Drawn0.step)⟩
          · rw [if_neg c7] at H
            have c7b0 : (a1 == 10) = false := beq_eq_false_iff_ne.mpr c7
            have c7b1 : (a1 != 10) = true := bne_iff_ne.mpr c7
            by_cases c8 : a1 = 9
            · rw [if_pos c8] at H
              have c8b0 : (a1 == 9) = true := beq_iff_eq.mpr c8
              have c8b1 : (a1 != 9) = false := bne_eq_false_iff_eq.mpr c8
              clear c8
              obtain rfl := Option.some.inj H
              go_enter Tryd.func40, Tryd.ntmps40
              go_wp2
              go_ret
              exact ⟨by first | rfl | (simp; done) | (simp [*]; done), by repeat (first | exact Drawn0.refl _ | apply Drawn0.step)⟩
            · rw [if_neg c8] at H
              have c8b0 : (a1 == 9) = false := beq_eq_false_iff_ne.mpr c8
              have c8b1 : (a1 != 9) = true := bne_iff_ne.mpr c8
              by_cases c9 : a1 = 11
              · rw [if_pos c9] at H
                have c9b0 : (a1 == 11) = true := beq_iff_eq.mpr c9
                have c9b1 : (a1 != 11) = false := bne_eq_false_iff_eq.mpr c9
                clear c9
                obtain rfl := Option.some.inj H
                go_enter Tryd.func40, Tryd.ntmps40
                go_wp2
                go_ret
                exact ⟨by first | rfl | (simp; done) | (simp [*]; done), by repeat (first | exact Drawn0.refl _ | apply Drawn0.step)⟩
              · rw [if_neg c9] at H
                have c9b0 : (a1 == 11) = false := beq_eq_false_iff_ne.mpr c9
                have c9b1 : (a1 != 11) = true := bne_iff_ne.mpr c9
                obtain rfl := Option.some.inj H
                go_enter Tryd.func40, Tryd.ntmps40
                go_wp2
                go_ret
                exact ⟨by first | rfl | (simp; done) | (simp [*]; done), by repeat (first | exact Drawn0.refl _ | apply Drawn0.step)⟩
end Go.Proofs.YtonmnpmklkbioaaDoor.PN
-- Written by a program of this session.
namespace Go.Proofs.YtonmnpmklkbioaaDoor.PN
open Go.RowKit Go.Proofs.YtonmnpmklkbioaaDoorW.PrintWords Go.Proofs.YtonmnpmklkbioaaDoorW.PrintLast Go.Proofs.YtonmnpmklkbioaaDoorW.PrintMore
attribute [local go_sem] max2_int min2_int max_two min_two max_three min_three max_four min_four   -- for this text's walks alone
set_option linter.unusedVariables false
set_option linter.unusedSimpArgs false
/-! ### spec_bit: function 70 -/
mutual
def spec_bit.j0 : Nat → Int → Int → Bool → Option (Int)
  | 0, _, _, _ => none
  | k + 1, x0, x3, x6 => if x6 = true then (some 4) else (if x3 = 34 then (some 8) else (if x3 = 39 then (some 16) else (if x3 = 96 then (some 32) else (if x3 = 36 then (some 64) else (if x3 = 58 then (some 128) else (if x3 = 63 then (some 256) else (if x3 = 42 then (some 512) else (if x3 = 124 then (some 1024) else (if x3 = 35 then (some 2048) else (if x3 = 37 then (some 4096) else (if x3 = 92 then (some 8192) else (if x3 = 91 then (spec_bit.j1 k x0 x3 (x3 == 91)) else (spec_bit.j1 k x0 x3 (x3 == 93))))))))))))))
def spec_bit.j1 : Nat → Int → Int → Bool → Option (Int)
  | 0, _, _, _ => none
  | k + 1, x0, x3, x31 => if x31 = true then (some 67108864) else (if x3 = 59 then (some 134217728) else (if x3 = 33 then (some 268435456) else (if x3 = 127 then (some 32768) else (if x3 = 13 then (spec_bit.j2 k x0 (x3 == 13)) else (spec_bit.j2 k x0 (x3 == 10))))))
def spec_bit.j2 : Nat → Int → Bool → Option (Int)
  | 0, _, _ => none
  | k + 1, x0, x40 => if x40 = true then (some 81920) else (if 0 < x0 then (if x0 < 32 then (some 65536) else (some 0)) else (some 0))
end
def spec_bit.f (k : Nat) (a0 : Int) : Option (Int) := if a0 = 47 then (some 2) else (if a0 = 60 then (spec_bit.j0 k a0 a0 (a0 == 60)) else (spec_bit.j0 k a0 a0 (a0 == 62)))
theorem spec_bit.mono_l : ∀ k, (∀ y0 y1 y2, LeO (spec_bit.j0 k y0 y1 y2) (spec_bit.j0 (k + 1) y0 y1 y2)) ∧ (∀ y0 y1 y2, LeO (spec_bit.j1 k y0 y1 y2) (spec_bit.j1 (k + 1) y0 y1 y2)) ∧ (∀ y0 y1, LeO (spec_bit.j2 k y0 y1) (spec_bit.j2 (k + 1) y0 y1))
  | 0 => ⟨fun _ _ _ r h => by simp [spec_bit.j0] at h, fun _ _ _ r h => by simp [spec_bit.j1] at h, fun _ _ r h => by simp [spec_bit.j2] at h⟩
  | k + 1 => by
    obtain ⟨ih0, ih1, ih2⟩ := spec_bit.mono_l k
    refine ⟨?_, ?_, ?_⟩
    · intro y0 y1 y2
      unfold spec_bit.j0
      repeat' first
      | (with_reducible exact ih0 _ _ _)
      | (with_reducible exact ih1 _ _ _)
      | (with_reducible exact ih2 _ _)
      | (with_reducible exact LeO.refl _)
      | (with_reducible exact LeO.none _)
      | (with_reducible refine LeO.ite ?_ ?_)
      | (with_reducible refine LeO.bind ?_ (fun _ => ?_))
      | exact ih0 _ _ _
      | exact ih1 _ _ _
      | exact ih2 _ _
      | exact LeO.none _
      | refine LeO.ite ?_ ?_
      | refine LeO.bind ?_ (fun _ => ?_)
    · intro y0 y1 y2
      unfold spec_bit.j1
      repeat' first
      | (with_reducible exact ih0 _ _ _)
      | (with_reducible exact ih1 _ _ _)
      | (with_reducible exact ih2 _ _)
      | (with_reducible exact LeO.refl _)
      | (with_reducible exact LeO.none _)
      | (with_reducible refine LeO.ite ?_ ?_)
      | (with_reducible refine LeO.bind ?_ (fun _ => ?_))
      | exact ih0 _ _ _
      | exact ih1 _ _ _
      | exact ih2 _ _
      | exact LeO.none _
      | refine LeO.ite ?_ ?_
      | refine LeO.bind ?_ (fun _ => ?_)
    · intro y0 y1
      unfold spec_bit.j2
      repeat' first
      | (with_reducible exact ih0 _ _ _)
      | (with_reducible exact ih1 _ _ _)
      | (with_reducible exact ih2 _ _)
      | (with_reducible exact LeO.refl _)
      | (with_reducible exact LeO.none _)
      | (with_reducible refine LeO.ite ?_ ?_)
      | (with_reducible refine LeO.bind ?_ (fun _ => ?_))
      | exact ih0 _ _ _
      | exact ih1 _ _ _
      | exact ih2 _ _
      | exact LeO.none _
      | refine LeO.ite ?_ ?_
      | refine LeO.bind ?_ (fun _ => ?_)
theorem spec_bit.mono : ∀ a0 k, LeO (spec_bit.f k a0) (spec_bit.f (k + 1) a0) := by
  intro a0 k
  obtain ⟨ih0, ih1, ih2⟩ := spec_bit.mono_l k
  unfold spec_bit.f
  repeat' first
      | (with_reducible exact ih0 _ _ _)
      | (with_reducible exact ih1 _ _ _)
      | (with_reducible exact ih2 _ _)
      | (with_reducible exact LeO.refl _)
      | (with_reducible exact LeO.none _)
      | (with_reducible refine LeO.ite ?_ ?_)
      | (with_reducible refine LeO.bind ?_ (fun _ => ?_))
      | exact ih0 _ _ _
      | exact ih1 _ _ _
      | exact ih2 _ _
      | exact LeO.none _
      | refine LeO.ite ?_ ?_
      | refine LeO.bind ?_ (fun _ => ?_)
set_option maxHeartbeats 8000000 in
set_option maxRecDepth 100000 in
theorem spec_bit.calls (k : Nat) (a0 : Int) (r : Int) (w : World) (h : spec_bit.f k a0 = some r) :
    Calls Tryd.prog 70 #[.int .i32 a0] w fun e w' => e = .returned (.int .u64 r) ∧ Drawn0 w w' := by
  have H : (if a0 = 47 then (some 2) else (if a0 = 60 then (spec_bit.j0 k a0 a0 (a0 == 60)) else (spec_bit.j0 k a0 a0 (a0 == 62)))) = some r := h
  clear h
  by_cases c2 : a0 = 47
  · rw [if_pos c2] at H
    have c2b0 : (a0 == 47) = true := beq_iff_eq.mpr c2
    have c2b1 : (a0 != 47) = false := bne_eq_false_iff_eq.mpr c2
    clear c2
    obtain rfl := Option.some.inj H
    go_enter Tryd.func70, Tryd.ntmps70
    go_wp2
    go_ret
    exact ⟨by first | rfl | (simp; done) | (simp [*]; done), by repeat (first | exact Drawn0.refl _ | apply Drawn0.step)⟩
  · rw [if_neg c2] at H
    have c2b0 : (a0 == 47) = false := beq_eq_false_iff_ne.mpr c2
    have c2b1 : (a0 != 47) = true := bne_iff_ne.mpr c2
    have HC3 := Aside0.mk H
    clear H
    go_enter Tryd.func70, Tryd.ntmps70
    go_upto_if 6 with (fail)
    go_cut [6] (fun v6 wc => ∃ (kq : Nat) (x6_2 : Bool), v6 = .bool x6_2 ∧ Aside0 (spec_bit.j0 kq a0 a0 x6_2 = some r) ∧ Aside0 (kq ≤ k) ∧ Drawn0 w wc)
    case first =>
      have H := HC3.out
      clear HC3
      by_cases c4 : a0 = 60
      · rw [if_pos c4] at H
        have c4b0 : (a0 == 60) = true := beq_iff_eq.mpr c4
        have c4b1 : (a0 != 60) = false := bne_eq_false_iff_eq.mpr c4
        clear c4
        (first | rw [c4b0] | (simp only [i64_w, i32_w]; rw [c4b0]) | skip)
        have H' := Aside0.mk H
        clear H
        go_wp2
        go_meet
        case rel => exact ⟨_, ((a0 == 60)), (by first | rfl | (simp; done) | (simp [*]; done)), H', ⟨by first | omega | exact Nat.le_refl _⟩, by repeat (first | exact Drawn0.refl _ | apply Drawn0.step)⟩
      · rw [if_neg c4] at H
        have c4b0 : (a0 == 60) = false := beq_eq_false_iff_ne.mpr c4
        have c4b1 : (a0 != 60) = true := bne_iff_ne.mpr c4
        (first | rw [c4b0] | (simp only [i64_w, i32_w]; rw [c4b0]) | skip)
        have H' := Aside0.mk H
        clear H
        go_wp2
        go_meet
        case rel => exact ⟨_, ((a0 == 62)), (by first | rfl | (simp; done) | (simp [*]; done)), H', ⟨by first | omega | exact Nat.le_refl _⟩, by repeat (first | exact Drawn0.refl _ | apply Drawn0.step)⟩
    case rest =>
      clear HC3
      try clear c2
      try clear c2b0
      try clear c2b1
      try clear p2
      try clear c4
      try clear c4b0
      try clear c4b1
      obtain ⟨kq, x6_2, rfl, HA, HJ2, ⟨mc2, rfl⟩⟩ := hcut
      cases kq with
      | zero => exact absurd HA.out (by simp [spec_bit.j0])
      | succ kj2 =>
        have H := HA.out
        clear HA
        simp only [spec_bit.j0] at H
        by_cases c5 : x6_2 = true
        · subst c5
          have H1 : (some 4) = some r := by rw [if_pos rfl] at H; exact H
          clear H
          have H := H1
          clear H1
          obtain rfl := Option.some.inj H
          go_wp2
          go_ret
          exact ⟨by first | rfl | (simp; done) | (simp [*]; done), by repeat (first | exact Drawn0.refl _ | apply Drawn0.step)⟩
        · replace c5 := Bool.eq_false_iff.mpr c5
          subst c5
          have H1 : (if a0 = 34 then (some 8) else (if a0 = 39 then (some 16) else (if a0 = 96 then (some 32) else (if a0 = 36 then (some 64) else (if a0 = 58 then (some 128) else (if a0 = 63 then (some 256) else (if a0 = 42 then (some 512) else (if a0 = 124 then (some 1024) else (if a0 = 35 then (some 2048) else (if a0 = 37 then (some 4096) else (if a0 = 92 then (some 8192) else (if a0 = 91 then (spec_bit.j1 kj2 a0 a0 (a0 == 91)) else (spec_bit.j1 kj2 a0 a0 (a0 == 93)))))))))))))) = some r := by rw [if_neg (show ¬ (false = true) by decide)] at H; exact H
          clear H
          have H := H1
          clear H1
          by_cases c6 : a0 = 34
          · rw [if_pos c6] at H
            have c6b0 : (a0 == 34) = true := beq_iff_eq.mpr c6
            have c6b1 : (a0 != 34) = false := bne_eq_false_iff_eq.mpr c6
            clear c6
            obtain rfl := Option.some.inj H
            go_wp2
            go_ret
            exact ⟨by first | rfl | (simp; done) | (simp [*]; done), by repeat (first | exact Drawn0.refl _ | apply Drawn0.step)⟩
          · rw [if_neg c6] at H
            have c6b0 : (a0 == 34) = false := beq_eq_false_iff_ne.mpr c6
            have c6b1 : (a0 != 34) = true := bne_iff_ne.mpr c6
            by_cases c7 : a0 = 39
            · rw [if_pos c7] at H
              have c7b0 : (a0 == 39) = true := beq_iff_eq.mpr c7
              have c7b1 : (a0 != 39) = false := bne_eq_false_iff_eq.mpr c7
              clear c7
              obtain rfl := Option.some.inj H
              go_wp2
              go_ret
              exact ⟨by first | rfl | (simp; done) | (simp [*]; done), by repeat (first | exact Drawn0.refl _ | apply Drawn0.step)⟩
            · rw [if_neg c7] at H
              have c7b0 : (a0 == 39) = false := beq_eq_false_iff_ne.mpr c7
              have c7b1 : (a0 != 39) = true := bne_iff_ne.mpr c7
              by_cases c8 : a0 = 96
              · rw [if_pos c8] at H
                have c8b0 : (a0 == 96) = true := beq_iff_eq.mpr c8
                have c8b1 : (a0 != 96) = false := bne_eq_false_iff_eq.mpr c8
                clear c8
                obtain rfl := Option.some.inj H
                go_wp2
                go_ret
                exact ⟨by first | rfl | (simp; done) | (simp [*]; done), by repeat (first | exact Drawn0.refl _ | apply Drawn0.step)⟩
              · rw [if_neg c8] at H
                have c8b0 : (a0 == 96) = false := beq_eq_false_iff_ne.mpr c8
                have c8b1 : (a0 != 96) = true := bne_iff_ne.mpr c8
                by_cases c9 : a0 = 36
                · rw [if_pos c9] at H
                  have c9b0 : (a0 == 36) = true := beq_iff_eq.mpr c9
                  have c9b1 : (a0 != 36) = false := bne_eq_false_iff_eq.mpr c9
                  clear c9
                  obtain rfl := Option.some.inj H
                  go_wp2
                  go_ret
                  exact ⟨by first | rfl | (simp; done) | (simp [*]; done), by repeat (first | exact Drawn0.refl _ | apply Drawn0.step)⟩
                · rw [if_neg c9] at H
                  have c9b0 : (a0 == 36) = false := beq_eq_false_iff_ne.mpr c9
                  have c9b1 : (a0 != 36) = true := bne_iff_ne.mpr c9
                  by_cases c10 : a0 = 58
                  · rw [if_pos c10] at H
                    have c10b0 : (a0 == 58) = true := beq_iff_eq.mpr c10
                    have c10b1 : (a0 != 58) = false := bne_eq_false_iff_eq.mpr c10
                    clear c10
                    obtain rfl := Option.some.inj H
                    go_wp2
                    go_ret
                    exact ⟨by first | rfl | (simp; done) | (simp [*]; done), by repeat (first | exact Drawn0.refl _ | apply Drawn0.step)⟩
                  · rw [if_neg c10] at H
                    have c10b0 : (a0 == 58) = false := beq_eq_false_iff_ne.mpr c10
                    have c10b1 : (a0 != 58) = true := bne_iff_ne.mpr c10
                    by_cases c11 : a0 = 63
                    · rw [if_pos c11] at H
                      have c11b0 : (a0 == 63) = true := beq_iff_eq.mpr c11
                      have c11b1 : (a0 != 63) = false := bne_eq_false_iff_eq.mpr c11
                      clear c11
                      obtain rfl := Option.some.inj H
                      go_wp2
                      go_ret
                      exact ⟨by first | rfl | (simp; done) | (simp [*]; done), by repeat (first | exact Drawn0.refl _ | apply Drawn0.step)⟩
                    · rw [if_neg c11] at H
                      have c11b0 : (a0 == 63) = false := beq_eq_false_iff_ne.mpr c11
                      have c11b1 : (a0 != 63) = true := bne_iff_ne.mpr c11
                      by_cases c12 : a0 = 42
                      · rw [if_pos c12] at H
                        have c12b0 : (a0 == 42) = true := beq_iff_eq.mpr c12
                        have c12b1 : (a0 != 42) = false := bne_eq_false_iff_eq.mpr c12
                        clear c12
                        obtain rfl := Option.some.inj H
                        go_wp2
                        go_ret
                        exact ⟨by first | rfl | (simp; done) | (simp [*]; done), by repeat (first | exact Drawn0.refl _ | apply Drawn0.step)⟩
                      · rw [if_neg c12] at H
                        have c12b0 : (a0 == 42) = false := beq_eq_false_iff_ne.mpr c12
                        have c12b1 : (a0 != 42) = true := bne_iff_ne.mpr c12
                        by_cases c13 : a0 = 124
                        · rw [if_pos c13] at H
                          have c13b0 : (a0 == 124) = true := beq_iff_eq.mpr c13
                          have c13b1 : (a0 != 124) = false := bne_eq_false_iff_eq.mpr c13
                          clear c13
                          obtain rfl := Option.some.inj H
                          go_wp2
                          go_ret
                          exact ⟨by first | rfl | (simp; done) | (simp [*]; done), by repeat (first | exact Drawn0.refl _ | apply Drawn0.step)⟩
                        · rw [if_neg c13] at H
                          have c13b0 : (a0 == 124) = false := beq_eq_false_iff_ne.mpr c13
                          have c13b1 : (a0 != 124) = true := bne_iff_ne.mpr c13
                          by_cases c14 : a0 = 35
                          · rw [if_pos c14] at H
                            have c14b0 : (a0 == 35) = true := beq_iff_eq.mpr c14
                            have c14b1 : (a0 != 35) = false := bne_eq_false_iff_eq.mpr c14
                            clear c14
                            obtain rfl := Option.some.inj H
                            go_wp2
                            go_ret
                            exact ⟨by first | rfl | (simp; done) | (simp [*]; done), by repeat (first | exact Drawn0.refl _ | apply Drawn0.step)⟩
                          · rw [if_neg c14] at H
                            have c14b0 : (a0 == 35) = false := beq_eq_false_iff_ne.mpr c14
                            have c14b1 : (a0 != 35) = true := bne_iff_ne.mpr c14
                            by_cases c15 : a0 = 37
                            · rw [if_pos c15] at H
                              have c15b0 : (a0 == 37) = true := beq_iff_eq.mpr c15
                              have c15b1 : (a0 != 37) = false := bne_eq_false_iff_eq.mpr c15
                              clear c15
                              obtain rfl := Option.some.inj H
                              go_wp2
                              go_ret
                              exact ⟨by first | rfl | (simp; done) | (simp [*]; done), by repeat (first | exact Drawn0.refl _ | apply Drawn0.step)⟩
                            · rw [if_neg c15] at H
                              have c15b0 : (a0 == 37) = false := beq_eq_false_iff_ne.mpr c15
                              have c15b1 : (a0 != 37) = true := bne_iff_ne.mpr c15
                              by_cases c16 : a0 = 92
                              · rw [if_pos c16] at H
                                have c16b0 : (a0 == 92) = true := beq_iff_eq.mpr c16
                                have c16b1 : (a0 != 92) = false := bne_eq_false_iff_eq.mpr c16
                                clear c16
                                obtain rfl := Option.some.inj H
                                go_wp2
                                go_ret
                                exact ⟨by first | rfl | (simp; done) | (simp [*]; done), by repeat (first | exact Drawn0.refl _ | apply Drawn0.step)⟩
                              · rw [if_neg c16] at H
                                have c16b0 : (a0 == 92) = false := beq_eq_false_iff_ne.mpr c16
                                have c16b1 : (a0 != 92) = true := bne_iff_ne.mpr c16
                                have HC17 := Aside0.mk H
                                clear H
                                go_upto_if 31 with (fail)
                                go_cut [31] (fun v31 wc => ∃ (kq : Nat) (x31_16 : Bool), v31 = .bool x31_16 ∧ Aside0 (spec_bit.j1 kq a0 a0 x31_16 = some r) ∧ Aside0 (kq ≤ kj2) ∧ Drawn0 w wc)
                                case first =>
                                  have H := HC17.out
                                  clear HC17
                                  by_cases c18 : a0 = 91
                                  · rw [if_pos c18] at H
                                    have c18b0 : (a0 == 91) = true := beq_iff_eq.mpr c18
                                    have c18b1 : (a0 != 91) = false := bne_eq_false_iff_eq.mpr c18
                                    clear c18
                                    (first | rw [c18b0] | (simp only [i64_w, i32_w]; rw [c18b0]) | skip)
                                    have H' := Aside0.mk H
                                    clear H
                                    go_wp2
                                    go_meet
                                    case rel => exact ⟨_, ((a0 == 91)), (by first | rfl | (simp; done) | (simp [*]; done)), H', ⟨by have := HJ2.out; first | omega | exact Nat.le_refl _⟩, by repeat (first | exact Drawn0.refl _ | apply Drawn0.step)⟩
                                  · rw [if_neg c18] at H
                                    have c18b0 : (a0 == 91) = false := beq_eq_false_iff_ne.mpr c18
                                    have c18b1 : (a0 != 91) = true := bne_iff_ne.mpr c18
                                    (first | rw [c18b0] | (simp only [i64_w, i32_w]; rw [c18b0]) | skip)
                                    have H' := Aside0.mk H
                                    clear H
                                    go_wp2
                                    go_meet
                                    case rel => exact ⟨_, ((a0 == 93)), (by first | rfl | (simp; done) | (simp [*]; done)), H', ⟨by have := HJ2.out; first | omega | exact Nat.le_refl _⟩, by repeat (first | exact Drawn0.refl _ | apply Drawn0.step)⟩
                                case rest =>
                                  clear HC17
                                  try clear c1
                                  try clear c2
                                  try clear c2b0
                                  try clear c2b1
                                  try clear p2
                                  try clear c4
                                  try clear c4b0
                                  try clear c4b1
                                  try clear c5
                                  try clear c6
                                  try clear c6b0
                                  try clear c6b1
                                  try clear c7
                                  try clear c7b0
                                  try clear c7b1
                                  try clear c8
                                  try clear c8b0
                                  try clear c8b1
                                  try clear c9
                                  try clear c9b0
                                  try clear c9b1
                                  try clear c10
                                  try clear c10b0
                                  try clear c10b1
                                  try clear c11
                                  try clear c11b0
                                  try clear c11b1
                                  try clear c12
                                  try clear c12b0
                                  try clear c12b1
                                  try clear c13
                                  try clear c13b0
                                  try clear c13b1
                                  try clear c14
                                  try clear c14b0
                                  try clear c14b1
                                  try clear c15
                                  try clear c15b0
                                  try clear c15b1
                                  try clear c16
                                  try clear c16b0
                                  try clear c16b1
                                  try clear c18
                                  try clear c18b0
                                  try clear c18b1
                                  try clear p2
                                  obtain ⟨kq, x31_16, rfl, HA, HJ16, ⟨mc16, rfl⟩⟩ := hcut
                                  cases kq with
                                  | zero => exact absurd HA.out (by simp [spec_bit.j1])
                                  | succ kj16 =>
                                    have H := HA.out
                                    clear HA
                                    simp only [spec_bit.j1] at H
                                    by_cases c19 : x31_16 = true
                                    · subst c19
                                      have H1 : (some 67108864) = some r := by rw [if_pos rfl] at H; exact H
                                      clear H
                                      have H := H1
                                      clear H1
                                      obtain rfl := Option.some.inj H
                                      go_wp2
                                      go_ret
                                      exact ⟨by first | rfl | (simp; done) | (simp [*]; done), by repeat (first | exact Drawn0.refl _ | apply Drawn0.step)⟩
                                    · replace c19 := Bool.eq_false_iff.mpr c19
                                      subst c19
                                      have H1 : (if a0 = 59 then (some 134217728) else (if a0 = 33 then (some 268435456) else (if a0 = 127 then (some 32768) else (if a0 = 13 then (spec_bit.j2 kj16 a0 (a0 == 13)) else (spec_bit.j2 kj16 a0 (a0 == 10)))))) = some r := by rw [if_neg (show ¬ (false = true) by decide)] at H; exact H
                                      clear H
                                      have H := H1
                                      clear H1
                                      by_cases c20 : a0 = 59
                                      · rw [if_pos c20] at H
                                        have c20b0 : (a0 == 59) = true := beq_iff_eq.mpr c20
                                        have c20b1 : (a0 != 59) = false := bne_eq_false_iff_eq.mpr c20
                                        clear c20
                                        obtain rfl := Option.some.inj H
                                        go_wp2
                                        go_ret
                                        exact ⟨by first | rfl | (simp; done) | (simp [*]; done), by repeat (first | exact Drawn0.refl _ | apply Drawn0.step)⟩
                                      · rw [if_neg c20] at H
                                        have c20b0 : (a0 == 59) = false := beq_eq_false_iff_ne.mpr c20
                                        have c20b1 : (a0 != 59) = true := bne_iff_ne.mpr c20
                                        by_cases c21 : a0 = 33
                                        · rw [if_pos c21] at H
                                          have c21b0 : (a0 == 33) = true := beq_iff_eq.mpr c21
                                          have c21b1 : (a0 != 33) = false := bne_eq_false_iff_eq.mpr c21
                                          clear c21
                                          obtain rfl := Option.some.inj H
                                          go_wp2
                                          go_ret
                                          exact ⟨by first | rfl | (simp; done) | (simp [*]; done), by repeat (first | exact Drawn0.refl _ | apply Drawn0.step)⟩
                                        · rw [if_neg c21] at H
                                          have c21b0 : (a0 == 33) = false := beq_eq_false_iff_ne.mpr c21
                                          have c21b1 : (a0 != 33) = true := bne_iff_ne.mpr c21
                                          by_cases c22 : a0 = 127
                                          · rw [if_pos c22] at H
                                            have c22b0 : (a0 == 127) = true := beq_iff_eq.mpr c22
                                            have c22b1 : (a0 != 127) = false := bne_eq_false_iff_eq.mpr c22
                                            clear c22
                                            obtain rfl := Option.some.inj H
                                            go_wp2
                                            go_ret
                                            exact ⟨by first | rfl | (simp; done) | (simp [*]; done), by repeat (first | exact Drawn0.refl _ | apply Drawn0.step)⟩
                                          · rw [if_neg c22] at H
                                            have c22b0 : (a0 == 127) = false := beq_eq_false_iff_ne.mpr c22
                                            have c22b1 : (a0 != 127) = true := bne_iff_ne.mpr c22
                                            have HC23 := Aside0.mk H
                                            clear H
                                            go_upto_if 40 with (fail)
                                            go_cut [40] (fun v40 wc => ∃ (kq : Nat) (x40_22 : Bool), v40 = .bool x40_22 ∧ Aside0 (spec_bit.j2 kq a0 x40_22 = some r) ∧ Aside0 (kq ≤ kj16) ∧ Drawn0 w wc)
                                            case first =>
                                              have H := HC23.out
                                              clear HC23
                                              by_cases c24 : a0 = 13
                                              · rw [if_pos c24] at H
                                                have c24b0 : (a0 == 13) = true := beq_iff_eq.mpr c24
                                                have c24b1 : (a0 != 13) = false := bne_eq_false_iff_eq.mpr c24
                                                clear c24
                                                (first | rw [c24b0] | (simp only [i64_w, i32_w]; rw [c24b0]) | skip)
                                                have H' := Aside0.mk H
                                                clear H
                                                go_wp2
                                                go_meet
                                                case rel => exact ⟨_, ((a0 == 13)), (by first | rfl | (simp; done) | (simp [*]; done)), H', ⟨by have := HJ2.out; have := HJ16.out; first | omega | exact Nat.le_refl _⟩, by repeat (first | exact Drawn0.refl _ | apply Drawn0.step)⟩
                                              · rw [if_neg c24] at H
                                                have c24b0 : (a0 == 13) = false := beq_eq_false_iff_ne.mpr c24
                                                have c24b1 : (a0 != 13) = true := bne_iff_ne.mpr c24
                                                (first | rw [c24b0] | (simp only [i64_w, i32_w]; rw [c24b0]) | skip)
                                                have H' := Aside0.mk H
                                                clear H
                                                go_wp2
                                                go_meet
                                                case rel => exact ⟨_, ((a0 == 10)), (by first | rfl | (simp; done) | (simp [*]; done)), H', ⟨by have := HJ2.out; have := HJ16.out; first | omega | exact Nat.le_refl _⟩, by repeat (first | exact Drawn0.refl _ | apply Drawn0.step)⟩
                                            case rest =>
                                              clear HC23
                                              try clear c1
                                              try clear c2
                                              try clear c2b0
                                              try clear c2b1
                                              try clear p2
                                              try clear c4
                                              try clear c4b0
                                              try clear c4b1
                                              try clear c5
                                              try clear c6
                                              try clear c6b0
                                              try clear c6b1
                                              try clear c7
                                              try clear c7b0
                                              try clear c7b1
                                              try clear c8
                                              try clear c8b0
                                              try clear c8b1
                                              try clear c9
                                              try clear c9b0
                                              try clear c9b1
                                              try clear c10
                                              try clear c10b0
                                              try clear c10b1
                                              try clear c11
                                              try clear c11b0
                                              try clear c11b1
                                              try clear c12
                                              try clear c12b0
                                              try clear c12b1
                                              try clear c13
                                              try clear c13b0
                                              try clear c13b1
                                              try clear c14
                                              try clear c14b0
                                              try clear c14b1
                                              try clear c15
                                              try clear c15b0
                                              try clear c15b1
                                              try clear c16
                                              try clear c16b0
                                              try clear c16b1
                                              try clear c18
                                              try clear c18b0
                                              try clear c18b1
                                              try clear c19
                                              try clear c20
                                              try clear c20b0
                                              try clear c20b1
                                              try clear c21
                                              try clear c21b0
                                              try clear c21b1
                                              try clear c22
                                              try clear c22b0
                                              try clear c22b1
                                              try clear c24
                                              try clear c24b0
                                              try clear c24b1
                                              try clear p2
                                              obtain ⟨kq, x40_22, rfl, HA, HJ22, ⟨mc22, rfl⟩⟩ := hcut
                                              cases kq with
                                              | zero => exact absurd HA.out (by simp [spec_bit.j2])
                                              | succ kj22 =>
                                                have H := HA.out
                                                clear HA
                                                simp only [spec_bit.j2] at H
                                                by_cases c25 : x40_22 = true
                                                · subst c25
                                                  have H1 : (some 81920) = some r := by rw [if_pos rfl] at H; exact H
                                                  clear H
                                                  have H := H1
                                                  clear H1
                                                  obtain rfl := Option.some.inj H
                                                  go_wp2
                                                  go_ret
                                                  exact ⟨by first | rfl | (simp; done) | (simp [*]; done), by repeat (first | exact Drawn0.refl _ | apply Drawn0.step)⟩
                                                · replace c25 := Bool.eq_false_iff.mpr c25
                                                  subst c25
                                                  have H1 : (if 0 < a0 then (if a0 < 32 then (some 65536) else (some 0)) else (some 0)) = some r := by rw [if_neg (show ¬ (false = true) by decide)] at H; exact H
                                                  clear H
                                                  have H := H1
                                                  clear H1
                                                  by_cases c26 : 0 < a0
                                                  · rw [if_pos c26] at H
                                                    have c26b0 : decide (0 < a0) = true := decide_eq_true c26
                                                    clear c26
                                                    by_cases c27 : a0 < 32
                                                    · rw [if_pos c27] at H
                                                      have c27b0 : decide (a0 < 32) = true := decide_eq_true c27
                                                      clear c27
                                                      obtain rfl := Option.some.inj H
                                                      go_wp2
                                                      go_ret
                                                      exact ⟨by first | rfl | (simp; done) | (simp [*]; done), by repeat (first | exact Drawn0.refl _ | apply Drawn0.step)⟩
                                                    · rw [if_neg c27] at H
                                                      have c27b0 : decide (a0 < 32) = false := decide_eq_false c27
                                                      clear c27
                                                      obtain rfl := Option.some.inj H
                                                      go_wp2
                                                      go_ret
                                                      exact ⟨by first | rfl | (simp; done) | (simp [*]; done), by repeat (first | exact Drawn0.refl _ | apply Drawn0.step)⟩
                                                  · rw [if_neg c26] at H
                                                    have c26b0 : decide (0 < a0) = false := decide_eq_false c26
                                                    clear c26
                                                    obtain rfl := Option.some.inj H
                                                    go_wp2
                                                    go_ret
                                                    exact ⟨by first | rfl | (simp; done) | (simp [*]; done), by repeat (first | exact Drawn0.refl _ | apply Drawn0.step)⟩
end Go.Proofs.YtonmnpmklkbioaaDoor.PN
-- Written by a program of this session.
namespace Go.Proofs.YtonmnpmklkbioaaDoor.PN
open Go.RowKit Go.Proofs.YtonmnpmklkbioaaDoorW.PrintWords Go.Proofs.YtonmnpmklkbioaaDoorW.PrintLast Go.Proofs.YtonmnpmklkbioaaDoorW.PrintMore
attribute [local go_sem] max2_int min2_int max_two min_two max_three min_three max_four min_four   -- for this text's walks alone
set_option linter.unusedVariables false
set_option linter.unusedSimpArgs false
/-! ### spec_Takes: function 46 -/
def spec_Takes.f (k : Nat) (a0 : Int) (a1 : Int) : Option (Bool) := if a1 = 0 then (some true) else (if a1 > 0 then ((spec_bit.f k a1).bind fun t214 => (some ((Go.bits .and .u64 a0 t214) != 0))) else (some false))
theorem spec_Takes.mono : ∀ a0 a1 k, LeO (spec_Takes.f k a0 a1) (spec_Takes.f (k + 1) a0 a1) := by
  intro a0 a1 k
  unfold spec_Takes.f
  repeat' first
      | (with_reducible exact spec_bit.mono _ _)
      | (with_reducible exact LeO.refl _)
      | (with_reducible exact LeO.none _)
      | (with_reducible refine LeO.ite ?_ ?_)
      | (with_reducible refine LeO.bind ?_ (fun _ => ?_))
      | exact spec_bit.mono _ _
      | exact LeO.none _
      | refine LeO.ite ?_ ?_
      | refine LeO.bind ?_ (fun _ => ?_)
set_option maxHeartbeats 8000000 in
set_option maxRecDepth 100000 in
theorem spec_Takes.calls (k : Nat) (a0 : Int) (a1 : Int) (r : Bool) (w : World) (h : spec_Takes.f k a0 a1 = some r) :
    Calls Tryd.prog 46 #[.int .u64 a0, .int .i32 a1] w fun e w' => e = .returned (.bool r) ∧ Drawn0 w w' := by
  have H : (if a1 = 0 then (some true) else (if a1 > 0 then ((spec_bit.f k a1).bind fun t214 => (some ((Go.bits .and .u64 a0 t214) != 0))) else (some false))) = some r := h
  clear h
  by_cases c3 : a1 = 0
  · rw [if_pos c3] at H
    have c3b0 : (a1 == 0) = true := beq_iff_eq.mpr c3
    have c3b1 : (a1 != 0) = false := bne_eq_false_iff_eq.mpr c3
    clear c3
    obtain rfl := Option.some.inj H
    go_enter Tryd.func46, Tryd.ntmps46
    go_wp2
    go_ret
    exact ⟨by first | rfl | (simp; done) | (simp [*]; done), by repeat (first | exact Drawn0.refl _ | apply Drawn0.step)⟩
  · rw [if_neg c3] at H
    have c3b0 : (a1 == 0) = false := beq_eq_false_iff_ne.mpr c3
    have c3b1 : (a1 != 0) = true := bne_iff_ne.mpr c3
    by_cases c4 : a1 > 0
    · rw [if_pos c4] at H
      have c4b0 : decide (0 < a1) = true := decide_eq_true c4
      clear c4
      replace H := Option.bind_eq_some_iff.mp H
      obtain ⟨t214, A50, H⟩ := H
      replace H : (some ((Go.bits .and .u64 a0 t214) != 0)) = some r := H
      have A5 := Aside0.mk A50
      clear A50
      obtain rfl := Option.some.inj H
      go_enter Tryd.func46, Tryd.ntmps46
      go_wp2_with (first | (go_at_call 70; (with_reducible refine (spec_bit.calls k a1 t214 _ A5.out).mono ?_); rintro e w' ⟨rfl, ⟨nd, rfl⟩⟩))
      go_ret
      exact ⟨by first | rfl | (simp; done) | (simp [*]; done), by repeat (first | exact Drawn0.refl _ | apply Drawn0.step)⟩
    · rw [if_neg c4] at H
      have c4b0 : decide (0 < a1) = false := decide_eq_false c4
      clear c4
      obtain rfl := Option.some.inj H
      go_enter Tryd.func46, Tryd.ntmps46
      go_wp2
      go_ret
      exact ⟨by first | rfl | (simp; done) | (simp [*]; done), by repeat (first | exact Drawn0.refl _ | apply Drawn0.step)⟩
end Go.Proofs.YtonmnpmklkbioaaDoor.PN
-- Written by a program of this session.
namespace Go.Proofs.YtonmnpmklkbioaaDoor.PN
open Go.RowKit Go.Proofs.YtonmnpmklkbioaaDoorW.PrintWords Go.Proofs.YtonmnpmklkbioaaDoorW.PrintLast Go.Proofs.YtonmnpmklkbioaaDoorW.PrintMore
attribute [local go_sem] max2_int min2_int max_two min_two max_three min_three max_four min_four   -- for this text's walks alone
set_option linter.unusedVariables false
set_option linter.unusedSimpArgs false
/-! ### spec_hexValue: function 72 -/
mutual
def spec_hexValue.j0 : Nat → Bool → ByteArray → Int → Bool → Option (Int)
  | 0, _, _, _, _ => none
  | k + 1, x6, x220000, x220001, x220002 => if x6 = true then (some (wrap64 (wrap32 (x220001 - 48)))) else (if 97 ≤ x220001 then (spec_hexValue.j1 k (decide (x220001 ≤ 102)) x220000 x220001 x220002) else (spec_hexValue.j1 k false x220000 x220001 x220002))
def spec_hexValue.j1 : Nat → Bool → ByteArray → Int → Bool → Option (Int)
  | 0, _, _, _, _ => none
  | k + 1, x19, x220000, x220001, x220002 => if x19 = true then (some (wrap64 ((wrap64 (wrap32 (x220001 - 97))) + 10))) else (if 65 ≤ x220001 then (if x220001 ≤ 70 then (some (wrap64 ((wrap64 (wrap32 (x220001 - 65))) + 10))) else (some (-1))) else (some (-1)))
end
def spec_hexValue.f (k : Nat) (a0_0 : ByteArray) (a0_1 : Int) (a0_2 : Bool) : Option (Int) := if a0_2 = true then (some (-1)) else (if 48 ≤ a0_1 then (spec_hexValue.j0 k (decide (a0_1 ≤ 57)) a0_0 a0_1 a0_2) else (spec_hexValue.j0 k false a0_0 a0_1 a0_2))
theorem spec_hexValue.mono_l : ∀ k, (∀ y0 y1 y2 y3, LeO (spec_hexValue.j0 k y0 y1 y2 y3) (spec_hexValue.j0 (k + 1) y0 y1 y2 y3)) ∧ (∀ y0 y1 y2 y3, LeO (spec_hexValue.j1 k y0 y1 y2 y3) (spec_hexValue.j1 (k + 1) y0 y1 y2 y3))
  | 0 => ⟨fun _ _ _ _ r h => by simp [spec_hexValue.j0] at h, fun _ _ _ _ r h => by simp [spec_hexValue.j1] at h⟩
  | k + 1 => by
    obtain ⟨ih0, ih1⟩ := spec_hexValue.mono_l k
    refine ⟨?_, ?_⟩
    · intro y0 y1 y2 y3
      unfold spec_hexValue.j0
      repeat' first
      | (with_reducible exact ih0 _ _ _ _)
      | (with_reducible exact ih1 _ _ _ _)
      | (with_reducible exact LeO.refl _)
      | (with_reducible exact LeO.none _)
      | (with_reducible refine LeO.ite ?_ ?_)
      | (with_reducible refine LeO.bind ?_ (fun _ => ?_))
      | exact ih0 _ _ _ _
      | exact ih1 _ _ _ _
      | exact LeO.none _
      | refine LeO.ite ?_ ?_
      | refine LeO.bind ?_ (fun _ => ?_)
    · intro y0 y1 y2 y3
      unfold spec_hexValue.j1
      repeat' first
      | (with_reducible exact ih0 _ _ _ _)
      | (with_reducible exact ih1 _ _ _ _)
      | (with_reducible exact LeO.refl _)
      | (with_reducible exact LeO.none _)
      | (with_reducible refine LeO.ite ?_ ?_)
      | (with_reducible refine LeO.bind ?_ (fun _ => ?_))
      | exact ih0 _ _ _ _
      | exact ih1 _ _ _ _
      | exact LeO.none _
      | refine LeO.ite ?_ ?_
      | refine LeO.bind ?_ (fun _ => ?_)
theorem spec_hexValue.mono : ∀ a0 a1 a2 k, LeO (spec_hexValue.f k a0 a1 a2) (spec_hexValue.f (k + 1) a0 a1 a2) := by
  intro a0 a1 a2 k
  obtain ⟨ih0, ih1⟩ := spec_hexValue.mono_l k
  unfold spec_hexValue.f
  repeat' first
      | (with_reducible exact ih0 _ _ _ _)
      | (with_reducible exact ih1 _ _ _ _)
      | (with_reducible exact LeO.refl _)
      | (with_reducible exact LeO.none _)
      | (with_reducible refine LeO.ite ?_ ?_)
      | (with_reducible refine LeO.bind ?_ (fun _ => ?_))
      | exact ih0 _ _ _ _
      | exact ih1 _ _ _ _
      | exact LeO.none _
      | refine LeO.ite ?_ ?_
      | refine LeO.bind ?_ (fun _ => ?_)
set_option maxHeartbeats 8000000 in
set_option maxRecDepth 100000 in
theorem spec_hexValue.calls (k : Nat) (a0_0 : ByteArray) (a0_1 : Int) (a0_2 : Bool) (r : Int) (w : World) (h : spec_hexValue.f k a0_0 a0_1 a0_2 = some r) :
    Calls Tryd.prog 72 #[.agg #[.string a0_0, .int .i32 a0_1, .bool a0_2]] w fun e w' => e = .returned (.int .i64 r) ∧ Below w.heap.size w w' := by
  have hu52 := Tryd.underlying52
  have HB := Aside0.mk (Below.refl w.heap.size w)
  have H : (if a0_2 = true then (some (-1)) else (if 48 ≤ a0_1 then (spec_hexValue.j0 k (decide (a0_1 ≤ 57)) a0_0 a0_1 a0_2) else (spec_hexValue.j0 k false a0_0 a0_1 a0_2))) = some r := h
  clear h
  by_cases c2 : a0_2 = true
  · subst c2
    have H1 : (some (-1)) = some r := by rw [if_pos rfl] at H; exact H
    clear H
    have H := H1
    clear H1
    obtain rfl := Option.some.inj H
    go_enter Tryd.func72, Tryd.ntmps72
    go_wp2_with (first | ((with_reducible refine gate_dst (N := 1) rfl ?_); refine box_event ?hg (N := 1) ?hd (cs := #[.string a0_0, .int .i32 a0_1, .bool true]) (t := 52) ?hr ?_; (case hd => rfl); (case hg => rfl); (case hr => first | (go_simp; done) | (go_simp; rfl)); intro gb219 hg w3 hbox hb; have n0_ := Aside0.mk (below_step (by repeat (first | (with_reducible first | exact HB.out | apply below_alloc | apply pw_below_drewN | apply below_drew1) | exact HB.out)) hb); have n1_ := Aside0.mk (hbox); have n2_ := Aside0.mk ((by rw [hg]; exact (below_size (by repeat (first | (with_reducible first | exact HB.out | apply below_alloc | apply pw_below_drewN | apply below_drew1) | exact HB.out))) : w.heap.size ≤ gb219)); have n3_ := Aside0.mk ((by rw [hg]; exact (below_size (by repeat (first | (with_reducible first | exact HB.out | apply below_alloc | apply pw_below_drewN | apply below_drew1) | exact HB.out))) : w.heap.size ≤ gb219)); clear HB; have HB := n0_; have BK219 := n1_; have GW219 := n2_; have GE219 := n3_; clear n0_ n1_ n2_ n3_; clear hb hbox hg; have hcz4_0 : w3.cell? ⟨gb219, 0, none⟩ = some (.string a0_0) := (blk_cell BK219.out 0).trans rfl; have hcz4_1 : w3.cell? ⟨gb219, 1, none⟩ = some (.int .i32 a0_1) := (blk_cell BK219.out 1).trans rfl; have hcz4_2 : w3.cell? ⟨gb219, 2, none⟩ = some (.bool true) := (blk_cell BK219.out 2).trans rfl; have hfz4_0 := blk_frozen BK219.out 0; have hfz4_1 := blk_frozen BK219.out 1; have hfz4_2 := blk_frozen BK219.out 2))
    go_ret
    exact ⟨by first | rfl | (simp [errW_none, errW_some] <;> rfl) | (simp [*, errW_none, errW_some] <;> rfl), by repeat (first | (with_reducible first | exact HB.out | apply below_alloc | apply pw_below_drewN | apply below_drew1 | refine below_set ?_ GE219.out) | exact HB.out)⟩
  · replace c2 := Bool.eq_false_iff.mpr c2
    subst c2
    have H1 : (if 48 ≤ a0_1 then (spec_hexValue.j0 k (decide (a0_1 ≤ 57)) a0_0 a0_1 false) else (spec_hexValue.j0 k false a0_0 a0_1 false)) = some r := by rw [if_neg (show ¬ (false = true) by decide)] at H; exact H
    clear H
    have H := H1
    clear H1
    have HC5 := Aside0.mk H
    clear H
    go_enter Tryd.func72, Tryd.ntmps72
    go_upto_region 3 with (first | ((with_reducible refine gate_dst (N := 1) rfl ?_); refine box_event ?hg (N := 1) ?hd (cs := #[.string a0_0, .int .i32 a0_1, .bool false]) (t := 52) ?hr ?_; (case hd => rfl); (case hg => rfl); (case hr => first | (go_simp; done) | (go_simp; rfl)); intro gb219 hg w6 hbox hb; have n0_ := Aside0.mk (below_step (by repeat (first | (with_reducible first | exact HB.out | apply below_alloc | apply pw_below_drewN | apply below_drew1) | exact HB.out)) hb); have n1_ := Aside0.mk (hbox); have n2_ := Aside0.mk ((by rw [hg]; exact (below_size (by repeat (first | (with_reducible first | exact HB.out | apply below_alloc | apply pw_below_drewN | apply below_drew1) | exact HB.out))) : w.heap.size ≤ gb219)); have n3_ := Aside0.mk ((by rw [hg]; exact (below_size (by repeat (first | (with_reducible first | exact HB.out | apply below_alloc | apply pw_below_drewN | apply below_drew1) | exact HB.out))) : w.heap.size ≤ gb219)); clear HB; have HB := n0_; have BK219 := n1_; have GW219 := n2_; have GE219 := n3_; clear n0_ n1_ n2_ n3_; clear hb hbox hg; have hcz7_0 : w6.cell? ⟨gb219, 0, none⟩ = some (.string a0_0) := (blk_cell BK219.out 0).trans rfl; have hcz7_1 : w6.cell? ⟨gb219, 1, none⟩ = some (.int .i32 a0_1) := (blk_cell BK219.out 1).trans rfl; have hcz7_2 : w6.cell? ⟨gb219, 2, none⟩ = some (.bool false) := (blk_cell BK219.out 2).trans rfl; have hfz7_0 := blk_frozen BK219.out 0; have hfz7_1 := blk_frozen BK219.out 1; have hfz7_2 := blk_frozen BK219.out 2))
    (try simp only [Act.put, List.setIfInBounds_toArray, List.set_cons_zero, List.set_cons_succ])
    go_cut [6] (fun v6 wc => ∃ (kq : Nat) (x6_4 : Bool), v6 = .bool x6_4 ∧ Aside0 (spec_hexValue.j0 kq x6_4 a0_0 a0_1 false = some r) ∧ Aside0 (kq ≤ k) ∧ Aside0 (wc.heap[gb219]? = some (.cells #[.string a0_0, .int .i32 a0_1, .bool false] 52 (0, 0))) ∧ Aside0 (Below w.heap.size w wc))
    case first =>
      have H := HC5.out
      clear HC5
      by_cases c8 : 48 ≤ a0_1
      · rw [if_pos c8] at H
        have c8b0 : decide (48 ≤ a0_1) = true := decide_eq_true c8
        clear c8
        (first | rw [c8b0] | (simp only [i64_w, i32_w]; rw [c8b0]) | skip)
        have H' := Aside0.mk H
        clear H
        have hcz9_0 : w6.cell? ⟨gb219, 0, none⟩ = some (.string a0_0) := (blk_cell BK219.out 0).trans rfl
        have hcz9_1 : w6.cell? ⟨gb219, 1, none⟩ = some (.int .i32 a0_1) := (blk_cell BK219.out 1).trans rfl
        have hcz9_2 : w6.cell? ⟨gb219, 2, none⟩ = some (.bool false) := (blk_cell BK219.out 2).trans rfl
        have hfz9_0 := blk_frozen BK219.out 0
        have hfz9_1 := blk_frozen BK219.out 1
        have hfz9_2 := blk_frozen BK219.out 2
        go_wp2
        go_meet
        case rel => exact ⟨_, (decide (a0_1 ≤ 57)), (by first | rfl | (simp; done) | (simp [*]; done)), H', ⟨by first | omega | exact Nat.le_refl _⟩, ⟨by (with_reducible repeat (first | refine blk_drewN ?_ _ | refine blk_drew ?_ | refine blk_alloc ?_ _)); exact BK219.out⟩, ⟨by repeat (first | (with_reducible first | exact HB.out | apply below_alloc | apply pw_below_drewN | apply below_drew1 | refine below_set ?_ GE219.out) | exact HB.out)⟩⟩
      · rw [if_neg c8] at H
        have c8b0 : decide (48 ≤ a0_1) = false := decide_eq_false c8
        clear c8
        (first | rw [c8b0] | (simp only [i64_w, i32_w]; rw [c8b0]) | skip)
        have H' := Aside0.mk H
        clear H
        have hcz10_0 : w6.cell? ⟨gb219, 0, none⟩ = some (.string a0_0) := (blk_cell BK219.out 0).trans rfl
        have hcz10_1 : w6.cell? ⟨gb219, 1, none⟩ = some (.int .i32 a0_1) := (blk_cell BK219.out 1).trans rfl
        have hcz10_2 : w6.cell? ⟨gb219, 2, none⟩ = some (.bool false) := (blk_cell BK219.out 2).trans rfl
        have hfz10_0 := blk_frozen BK219.out 0
        have hfz10_1 := blk_frozen BK219.out 1
        have hfz10_2 := blk_frozen BK219.out 2
        go_wp2
        go_meet
        case rel => exact ⟨_, (false), (by first | rfl | (simp; done) | (simp [*]; done)), H', ⟨by first | omega | exact Nat.le_refl _⟩, ⟨by (with_reducible repeat (first | refine blk_drewN ?_ _ | refine blk_drew ?_ | refine blk_alloc ?_ _)); exact BK219.out⟩, ⟨by repeat (first | (with_reducible first | exact HB.out | apply below_alloc | apply pw_below_drewN | apply below_drew1 | refine below_set ?_ GE219.out) | exact HB.out)⟩⟩
    case rest =>
      clear HC5
      try clear c2
      try clear p2
      try clear c7
      try clear c8
      try clear c8b0
      try clear hcz10_0
      try clear hcz10_1
      try clear hcz10_2
      try clear hcz4_0
      try clear hcz4_1
      try clear hcz4_2
      try clear hcz7_0
      try clear hcz7_1
      try clear hcz7_2
      try clear hcz9_0
      try clear hcz9_1
      try clear hcz9_2
      try clear hfz10_0
      try clear hfz10_1
      try clear hfz10_2
      try clear hfz4_0
      try clear hfz4_1
      try clear hfz4_2
      try clear hfz7_0
      try clear hfz7_1
      try clear hfz7_2
      try clear hfz9_0
      try clear hfz9_1
      try clear hfz9_2
      obtain ⟨kq, x6_4, rfl, HA, HJ4, BK219, HB⟩ := hcut
      cases kq with
      | zero => exact absurd HA.out (by simp [spec_hexValue.j0])
      | succ kj4 =>
        have H := HA.out
        clear HA
        simp only [spec_hexValue.j0] at H
        by_cases c11 : x6_4 = true
        · subst c11
          have H1 : (some (wrap64 (wrap32 (a0_1 - 48)))) = some r := by rw [if_pos rfl] at H; exact H
          clear H
          have H := H1
          clear H1
          obtain rfl := Option.some.inj H
          have hcz12_0 : wc.cell? ⟨gb219, 0, none⟩ = some (.string a0_0) := (blk_cell BK219.out 0).trans rfl
          have hcz12_1 : wc.cell? ⟨gb219, 1, none⟩ = some (.int .i32 a0_1) := (blk_cell BK219.out 1).trans rfl
          have hcz12_2 : wc.cell? ⟨gb219, 2, none⟩ = some (.bool false) := (blk_cell BK219.out 2).trans rfl
          have hfz12_0 := blk_frozen BK219.out 0
          have hfz12_1 := blk_frozen BK219.out 1
          have hfz12_2 := blk_frozen BK219.out 2
          go_wp2
          go_ret
          exact ⟨by first | rfl | (simp [errW_none, errW_some] <;> rfl) | (simp [*, errW_none, errW_some] <;> rfl), by repeat (first | (with_reducible first | exact HB.out | apply below_alloc | apply pw_below_drewN | apply below_drew1 | refine below_set ?_ GE219.out) | exact HB.out)⟩
        · replace c11 := Bool.eq_false_iff.mpr c11
          subst c11
          have H1 : (if 97 ≤ a0_1 then (spec_hexValue.j1 kj4 (decide (a0_1 ≤ 102)) a0_0 a0_1 false) else (spec_hexValue.j1 kj4 false a0_0 a0_1 false)) = some r := by rw [if_neg (show ¬ (false = true) by decide)] at H; exact H
          clear H
          have H := H1
          clear H1
          have HC13 := Aside0.mk H
          clear H
          go_upto_region 5 with (fail)
          go_cut [19] (fun v19 wc => ∃ (kq : Nat) (x19_12 : Bool), v19 = .bool x19_12 ∧ Aside0 (spec_hexValue.j1 kq x19_12 a0_0 a0_1 false = some r) ∧ Aside0 (kq ≤ kj4) ∧ Aside0 (wc.heap[gb219]? = some (.cells #[.string a0_0, .int .i32 a0_1, .bool false] 52 (0, 0))) ∧ Aside0 (Below w.heap.size w wc))
          case first =>
            have H := HC13.out
            clear HC13
            by_cases c14 : 97 ≤ a0_1
            · rw [if_pos c14] at H
              have c14b0 : decide (97 ≤ a0_1) = true := decide_eq_true c14
              clear c14
              (first | rw [c14b0] | (simp only [i64_w, i32_w]; rw [c14b0]) | skip)
              have H' := Aside0.mk H
              clear H
              have hcz15_0 : wc.cell? ⟨gb219, 0, none⟩ = some (.string a0_0) := (blk_cell BK219.out 0).trans rfl
              have hcz15_1 : wc.cell? ⟨gb219, 1, none⟩ = some (.int .i32 a0_1) := (blk_cell BK219.out 1).trans rfl
              have hcz15_2 : wc.cell? ⟨gb219, 2, none⟩ = some (.bool false) := (blk_cell BK219.out 2).trans rfl
              have hfz15_0 := blk_frozen BK219.out 0
              have hfz15_1 := blk_frozen BK219.out 1
              have hfz15_2 := blk_frozen BK219.out 2
              go_wp2
              go_meet
              case rel => exact ⟨_, (decide (a0_1 ≤ 102)), (by first | rfl | (simp; done) | (simp [*]; done)), H', ⟨by have := HJ4.out; first | omega | exact Nat.le_refl _⟩, ⟨by (with_reducible repeat (first | refine blk_drewN ?_ _ | refine blk_drew ?_ | refine blk_alloc ?_ _)); exact BK219.out⟩, ⟨by repeat (first | (with_reducible first | exact HB.out | apply below_alloc | apply pw_below_drewN | apply below_drew1 | refine below_set ?_ GE219.out) | exact HB.out)⟩⟩
            · rw [if_neg c14] at H
              have c14b0 : decide (97 ≤ a0_1) = false := decide_eq_false c14
              clear c14
              (first | rw [c14b0] | (simp only [i64_w, i32_w]; rw [c14b0]) | skip)
              have H' := Aside0.mk H
              clear H
              have hcz16_0 : wc.cell? ⟨gb219, 0, none⟩ = some (.string a0_0) := (blk_cell BK219.out 0).trans rfl
              have hcz16_1 : wc.cell? ⟨gb219, 1, none⟩ = some (.int .i32 a0_1) := (blk_cell BK219.out 1).trans rfl
              have hcz16_2 : wc.cell? ⟨gb219, 2, none⟩ = some (.bool false) := (blk_cell BK219.out 2).trans rfl
              have hfz16_0 := blk_frozen BK219.out 0
              have hfz16_1 := blk_frozen BK219.out 1
              have hfz16_2 := blk_frozen BK219.out 2
              go_wp2
              go_meet
              case rel => exact ⟨_, (false), (by first | rfl | (simp; done) | (simp [*]; done)), H', ⟨by have := HJ4.out; first | omega | exact Nat.le_refl _⟩, ⟨by (with_reducible repeat (first | refine blk_drewN ?_ _ | refine blk_drew ?_ | refine blk_alloc ?_ _)); exact BK219.out⟩, ⟨by repeat (first | (with_reducible first | exact HB.out | apply below_alloc | apply pw_below_drewN | apply below_drew1 | refine below_set ?_ GE219.out) | exact HB.out)⟩⟩
          case rest =>
            clear HC13
            try clear c1
            try clear c2
            try clear p2
            try clear p3
            try clear p6
            try clear c7
            try clear c8
            try clear c8b0
            try clear c11
            try clear c14
            try clear c14b0
            try clear hcz10_0
            try clear hcz10_1
            try clear hcz10_2
            try clear hcz12_0
            try clear hcz12_1
            try clear hcz12_2
            try clear hcz15_0
            try clear hcz15_1
            try clear hcz15_2
            try clear hcz16_0
            try clear hcz16_1
            try clear hcz16_2
            try clear hcz4_0
            try clear hcz4_1
            try clear hcz4_2
            try clear hcz7_0
            try clear hcz7_1
            try clear hcz7_2
            try clear hcz9_0
            try clear hcz9_1
            try clear hcz9_2
            try clear hfz10_0
            try clear hfz10_1
            try clear hfz10_2
            try clear hfz12_0
            try clear hfz12_1
            try clear hfz12_2
            try clear hfz15_0
            try clear hfz15_1
            try clear hfz15_2
            try clear hfz16_0
            try clear hfz16_1
            try clear hfz16_2
            try clear hfz4_0
            try clear hfz4_1
            try clear hfz4_2
            try clear hfz7_0
            try clear hfz7_1
            try clear hfz7_2
            try clear hfz9_0
            try clear hfz9_1
            try clear hfz9_2
            try clear p2
            obtain ⟨kq, x19_12, rfl, HA, HJ12, BK219, HB⟩ := hcut
            cases kq with
            | zero => exact absurd HA.out (by simp [spec_hexValue.j1])
            | succ kj12 =>
              have H := HA.out
              clear HA
              simp only [spec_hexValue.j1] at H
              by_cases c17 : x19_12 = true
              · subst c17
                have H1 : (some (wrap64 ((wrap64 (wrap32 (a0_1 - 97))) + 10))) = some r := by rw [if_pos rfl] at H; exact H
                clear H
                have H := H1
                clear H1
                obtain rfl := Option.some.inj H
                have hcz18_0 : wc.cell? ⟨gb219, 0, none⟩ = some (.string a0_0) := (blk_cell BK219.out 0).trans rfl
                have hcz18_1 : wc.cell? ⟨gb219, 1, none⟩ = some (.int .i32 a0_1) := (blk_cell BK219.out 1).trans rfl
                have hcz18_2 : wc.cell? ⟨gb219, 2, none⟩ = some (.bool false) := (blk_cell BK219.out 2).trans rfl
                have hfz18_0 := blk_frozen BK219.out 0
                have hfz18_1 := blk_frozen BK219.out 1
                have hfz18_2 := blk_frozen BK219.out 2
                go_wp2
                go_ret
                exact ⟨by first | rfl | (simp [errW_none, errW_some] <;> rfl) | (simp [*, errW_none, errW_some] <;> rfl), by repeat (first | (with_reducible first | exact HB.out | apply below_alloc | apply pw_below_drewN | apply below_drew1 | refine below_set ?_ GE219.out) | exact HB.out)⟩
              · replace c17 := Bool.eq_false_iff.mpr c17
                subst c17
                have H1 : (if 65 ≤ a0_1 then (if a0_1 ≤ 70 then (some (wrap64 ((wrap64 (wrap32 (a0_1 - 65))) + 10))) else (some (-1))) else (some (-1))) = some r := by rw [if_neg (show ¬ (false = true) by decide)] at H; exact H
                clear H
                have H := H1
                clear H1
                by_cases c19 : 65 ≤ a0_1
                · rw [if_pos c19] at H
                  have c19b0 : decide (65 ≤ a0_1) = true := decide_eq_true c19
                  clear c19
                  by_cases c20 : a0_1 ≤ 70
                  · rw [if_pos c20] at H
                    have c20b0 : decide (a0_1 ≤ 70) = true := decide_eq_true c20
                    clear c20
                    obtain rfl := Option.some.inj H
                    have hcz21_0 : wc.cell? ⟨gb219, 0, none⟩ = some (.string a0_0) := (blk_cell BK219.out 0).trans rfl
                    have hcz21_1 : wc.cell? ⟨gb219, 1, none⟩ = some (.int .i32 a0_1) := (blk_cell BK219.out 1).trans rfl
                    have hcz21_2 : wc.cell? ⟨gb219, 2, none⟩ = some (.bool false) := (blk_cell BK219.out 2).trans rfl
                    have hfz21_0 := blk_frozen BK219.out 0
                    have hfz21_1 := blk_frozen BK219.out 1
                    have hfz21_2 := blk_frozen BK219.out 2
                    go_wp2
                    go_ret
                    exact ⟨by first | rfl | (simp [errW_none, errW_some] <;> rfl) | (simp [*, errW_none, errW_some] <;> rfl), by repeat (first | (with_reducible first | exact HB.out | apply below_alloc | apply pw_below_drewN | apply below_drew1 | refine below_set ?_ GE219.out) | exact HB.out)⟩
                  · rw [if_neg c20] at H
                    have c20b0 : decide (a0_1 ≤ 70) = false := decide_eq_false c20
                    clear c20
                    obtain rfl := Option.some.inj H
                    have hcz22_0 : wc.cell? ⟨gb219, 0, none⟩ = some (.string a0_0) := (blk_cell BK219.out 0).trans rfl
                    have hcz22_1 : wc.cell? ⟨gb219, 1, none⟩ = some (.int .i32 a0_1) := (blk_cell BK219.out 1).trans rfl
                    have hcz22_2 : wc.cell? ⟨gb219, 2, none⟩ = some (.bool false) := (blk_cell BK219.out 2).trans rfl
                    have hfz22_0 := blk_frozen BK219.out 0
                    have hfz22_1 := blk_frozen BK219.out 1
                    have hfz22_2 := blk_frozen BK219.out 2
                    go_wp2
                    go_ret
                    exact ⟨by first | rfl | (simp [errW_none, errW_some] <;> rfl) | (simp [*, errW_none, errW_some] <;> rfl), by repeat (first | (with_reducible first | exact HB.out | apply below_alloc | apply pw_below_drewN | apply below_drew1 | refine below_set ?_ GE219.out) | exact HB.out)⟩
                · rw [if_neg c19] at H
                  have c19b0 : decide (65 ≤ a0_1) = false := decide_eq_false c19
                  clear c19
                  obtain rfl := Option.some.inj H
                  have hcz23_0 : wc.cell? ⟨gb219, 0, none⟩ = some (.string a0_0) := (blk_cell BK219.out 0).trans rfl
                  have hcz23_1 : wc.cell? ⟨gb219, 1, none⟩ = some (.int .i32 a0_1) := (blk_cell BK219.out 1).trans rfl
                  have hcz23_2 : wc.cell? ⟨gb219, 2, none⟩ = some (.bool false) := (blk_cell BK219.out 2).trans rfl
                  have hfz23_0 := blk_frozen BK219.out 0
                  have hfz23_1 := blk_frozen BK219.out 1
                  have hfz23_2 := blk_frozen BK219.out 2
                  go_wp2
                  go_ret
                  exact ⟨by first | rfl | (simp [errW_none, errW_some] <;> rfl) | (simp [*, errW_none, errW_some] <;> rfl), by repeat (first | (with_reducible first | exact HB.out | apply below_alloc | apply pw_below_drewN | apply below_drew1 | refine below_set ?_ GE219.out) | exact HB.out)⟩
end Go.Proofs.YtonmnpmklkbioaaDoor.PN
-- Written by a program of this session.
namespace Go.Proofs.YtonmnpmklkbioaaDoor.PN
open Go.RowKit Go.Proofs.YtonmnpmklkbioaaDoorW.PrintWords Go.Proofs.YtonmnpmklkbioaaDoorW.PrintLast Go.Proofs.YtonmnpmklkbioaaDoorW.PrintMore
attribute [local go_sem] max2_int min2_int max_two min_two max_three min_three max_four min_four   -- for this text's walks alone
set_option linter.unusedVariables false
set_option linter.unusedSimpArgs false
/-! ### laws_zzFits3: function 30 -/
def laws_zzFits3.l0 : Nat → List ByteArray → Int → Int → Option (Bool)
  | 0, _, _, _ => none
  | k + 1, x8, x9, x10 => if x10 < x9 then (if 0 ≤ x10 then (if x10 < (x8.length : Int) then (if ((rdOf ByteArray.empty x8 x10).size : Int) > 2147483647 then (some false) else (laws_zzFits3.l0 k x8 x9 (wrap64 (x10 + 1)))) else (none)) else (none)) else (some true)
def laws_zzFits3.f (k : Nat) (l0 : List ByteArray) : Option (Bool) := if (l0.length : Int) > 2147483647 then (some false) else (laws_zzFits3.l0 k l0 (l0.length : Int) 0)
theorem laws_zzFits3.mono_l : ∀ k, (∀ y0 y1 y2, LeO (laws_zzFits3.l0 k y0 y1 y2) (laws_zzFits3.l0 (k + 1) y0 y1 y2))
  | 0 => fun _ _ _ r h => by simp [laws_zzFits3.l0] at h
  | k + 1 => by
    have ih0 := laws_zzFits3.mono_l k
    · intro y0 y1 y2
      unfold laws_zzFits3.l0
      repeat' first
      | (with_reducible exact ih0 _ _ _)
      | (with_reducible exact LeO.refl _)
      | (with_reducible exact LeO.none _)
      | (with_reducible refine LeO.ite ?_ ?_)
      | (with_reducible refine LeO.bind ?_ (fun _ => ?_))
      | exact ih0 _ _ _
      | exact LeO.none _
      | refine LeO.ite ?_ ?_
      | refine LeO.bind ?_ (fun _ => ?_)
theorem laws_zzFits3.mono : ∀ a0 k, LeO (laws_zzFits3.f k a0) (laws_zzFits3.f (k + 1) a0) := by
  intro a0 k
  have ih0 := laws_zzFits3.mono_l k
  unfold laws_zzFits3.f
  repeat' first
      | (with_reducible exact ih0 _ _ _)
      | (with_reducible exact LeO.refl _)
      | (with_reducible exact LeO.none _)
      | (with_reducible refine LeO.ite ?_ ?_)
      | (with_reducible refine LeO.bind ?_ (fun _ => ?_))
      | exact ih0 _ _ _
      | exact LeO.none _
      | refine LeO.ite ?_ ?_
      | refine LeO.bind ?_ (fun _ => ?_)
set_option maxHeartbeats 8000000 in
set_option maxRecDepth 100000 in
theorem laws_zzFits3.calls (k : Nat) (A0 : Option Addr) (c0 : Nat) (l0 : List ByteArray) (r : Bool) (w : World) (hr0 : Kd.C Kd.string w A0 l0.length l0) (hc0 : l0.length ≤ c0) (h : laws_zzFits3.f k l0 = some r) :
    Calls Tryd.prog 30 #[.slice A0 l0.length c0] w fun e w' => e = .returned (.bool r) ∧ Drawn0 w w' := by
  have HR0 := Aside0.mk hr0
  have HC0 := Aside0.mk hc0
  clear hr0 hc0
  have H : (if (l0.length : Int) > 2147483647 then (some false) else (laws_zzFits3.l0 k l0 (l0.length : Int) 0)) = some r := h
  clear h
  by_cases c2 : (l0.length : Int) > 2147483647
  · rw [if_pos c2] at H
    have c2b0 : decide (2147483647 < (l0.length : Int)) = true := decide_eq_true c2
    have c2b1 : decide (2147483647 < l0.length) = true := decide_eq_true (by omega)
    clear c2
    obtain rfl := Option.some.inj H
    go_enter Tryd.func30, Tryd.ntmps30
    go_wp2
    go_ret
    exact ⟨by first | rfl | (simp; done) | (simp [*]; done), by repeat (first | exact Drawn0.refl _ | apply Drawn0.step)⟩
  · rw [if_neg c2] at H
    have c2b0 : decide (2147483647 < (l0.length : Int)) = false := decide_eq_false c2
    have c2b1 : decide (2147483647 < l0.length) = false := decide_eq_false (by omega)
    clear c2
    have H' := Aside0.mk H
    clear H
    go_enter Tryd.func30, Tryd.ntmps30
    go_wp2
    go_loopg [10] k (fun kq v10 w' => ∃ (x10_1 : Int), v10 = .int .i64 x10_1 ∧ Aside0 (laws_zzFits3.l0 kq l0 (l0.length : Int) x10_1 = some r) ∧ Aside0 (kq ≤ k) ∧ Drawn0 w w')
    case atStart => exact ⟨(0), (by first | rfl | (simp; done) | (simp [*]; done)), H', ⟨Nat.le_refl _⟩, by repeat (first | exact Drawn0.refl _ | apply Drawn0.step)⟩
    case round =>
      clear H'
      try clear c2
      try clear c2b0
      try clear c2b1
      try clear p2
      obtain ⟨x10_1, rfl, HA, HK1, ⟨m1, rfl⟩⟩ := hrel
      cases gk with
      | zero => exact absurd HA.out (by simp [laws_zzFits3.l0])
      | succ k1 =>
        have H := HA.out
        clear HA
        simp only [laws_zzFits3.l0] at H
        by_cases c3 : x10_1 < (l0.length : Int)
        · rw [if_pos c3] at H
          have c3b0 : decide (x10_1 < (l0.length : Int)) = true := decide_eq_true c3
          clear c3
          by_cases c4 : 0 ≤ x10_1
          · rw [if_pos c4] at H
            have c4b0 : decide (0 ≤ x10_1) = true := decide_eq_true c4
            clear c4
            by_cases c5 : x10_1 < (l0.length : Int)
            · rw [if_pos c5] at H
              have c5b0 : decide (x10_1 < (l0.length : Int)) = true := decide_eq_true c5
              clear c5
              by_cases c6 : ((rdOf ByteArray.empty l0 x10_1).size : Int) > 2147483647
              · rw [if_pos c6] at H
                have c6b0 : decide (2147483647 < ((rdOf ByteArray.empty l0 x10_1).size : Int)) = true := decide_eq_true c6
                have c6b1 : decide (2147483647 < (rdOf ByteArray.empty l0 x10_1).size) = true := decide_eq_true (by omega)
                clear c6
                obtain rfl := Option.some.inj H
                have p254 : 0 ≤ (x10_1 : Int) := of_decide_eq_true (by first | (with_reducible assumption) | assumption)
                have q254 : x10_1 < (l0.length : Int) := of_decide_eq_true (by first | (with_reducible assumption) | assumption)
                obtain ⟨ad254, e254, hx254_0⟩ := Kd.at_string HR0.out x10_1 p254 q254
                cases e254
                replace p254 := eq_true p254
                replace q254 := eq_true q254
                go_wp2
                go_ret
                exact ⟨by first | rfl | (simp; done) | (simp [*]; done), by repeat (first | exact Drawn0.refl _ | apply Drawn0.step)⟩
              · rw [if_neg c6] at H
                have c6b0 : decide (2147483647 < ((rdOf ByteArray.empty l0 x10_1).size : Int)) = false := decide_eq_false c6
                have c6b1 : decide (2147483647 < (rdOf ByteArray.empty l0 x10_1).size) = false := decide_eq_false (by omega)
                clear c6
                have H' := Aside0.mk H
                clear H
                have p254 : 0 ≤ (x10_1 : Int) := of_decide_eq_true (by first | (with_reducible assumption) | assumption)
                have q254 : x10_1 < (l0.length : Int) := of_decide_eq_true (by first | (with_reducible assumption) | assumption)
                obtain ⟨ad254, e254, hx254_0⟩ := Kd.at_string HR0.out x10_1 p254 q254
                cases e254
                replace p254 := eq_true p254
                replace q254 := eq_true q254
                go_wp2
                go_roundg k1
                case measure => have := HK1.out; omega
                case rel => exact ⟨(wrap64 (x10_1 + 1)), (by first | rfl | (simp; done) | (simp [*]; done)), H', ⟨by have := HK1.out; omega⟩, by repeat (first | exact Drawn0.refl _ | apply Drawn0.step)⟩
            · rw [if_neg c5] at H
              exact absurd H (by simp)
          · rw [if_neg c4] at H
            exact absurd H (by simp)
        · rw [if_neg c3] at H
          have c3b0 : decide (x10_1 < (l0.length : Int)) = false := decide_eq_false c3
          clear c3
          obtain rfl := Option.some.inj H
          go_wp2
          go_ret
          exact ⟨by first | rfl | (simp; done) | (simp [*]; done), by repeat (first | exact Drawn0.refl _ | apply Drawn0.step)⟩
end Go.Proofs.YtonmnpmklkbioaaDoor.PN
