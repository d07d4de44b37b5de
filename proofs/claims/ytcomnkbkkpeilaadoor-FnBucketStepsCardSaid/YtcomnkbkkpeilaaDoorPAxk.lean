-- Written by a program of this session.
import Derived.Test.YtcomnkbkkpeilaaDoorProg
import Derived.Below
import Derived.Deep.Draws
import Derived.Deep.AppendLies
import Derived.Maps.AppendAt
import Derived.OwnWalk
import Derived.Laws.BytesArg
import Derived.Laws.MakeOwn
import Derived.Laws.OwnMore
import Derived.Deep.OwnRows
import Derived.Tactics
import Derived.Lib.ConvBytes
import Derived.Laws.Slices
import Derived.WalkKit
import Derived.KernelRfl
import Derived.RowKit3
import Derived.Deep.LoopGhost
import Derived.Deep.QuietTactic
import Derived.BigQuiet
import Derived.WideLaws
import Derived.Deep.DeepCutAuto
import Derived.Deep.CutBlock
import Derived.Deep.RegionHeld3
import Derived.Laws.Rows
import Derived.Lib.AppendStr
import Derived.ArgAppend
import Derived.Laws.IdiomCopy
import Derived.OrdersHeld
import Derived.Laws.BitsLemmas
import Derived.RowKit
import Derived.Test.YtcomnkbkkpeilaaDoorWWords
import Derived.Test.YtcomnkbkkpeilaaDoorWLast
import Derived.Test.YtcomnkbkkpeilaaDoorWTab
import Derived.Test.YtcomnkbkkpeilaaDoorWFour
import Derived.Test.YtcomnkbkkpeilaaDoorWQPut
import Derived.Test.YtcomnkbkkpeilaaDoorWApart
import Derived.Test.YtcomnkbkkpeilaaDoorWArr
import Derived.Test.YtcomnkbkkpeilaaDoorWZeros
import Derived.Test.YtcomnkbkkpeilaaDoorWFoot
import Derived.Test.YtcomnkbkkpeilaaDoorWKept
import Derived.Test.YtcomnkbkkpeilaaDoorWShare
import Derived.Test.YtcomnkbkkpeilaaDoorWN
import Derived.Test.YtcomnkbkkpeilaaDoorWFootNe
import Derived.Test.YtcomnkbkkpeilaaDoorWAt
import Derived.Test.YtcomnkbkkpeilaaDoorWEqStruct
import Derived.Test.YtcomnkbkkpeilaaDoorWRepsOne
import Derived.Test.YtcomnkbkkpeilaaDoorWInv
import Derived.Test.YtcomnkbkkpeilaaDoorWInvWords
import Derived.Test.YtcomnkbkkpeilaaDoorWGuard
import Derived.Test.YtcomnkbkkpeilaaDoorWNEv
import Derived.Test.YtcomnkbkkpeilaaDoorWMore
namespace Go.Proofs.YtcomnkbkkpeilaaDoor.PA
open Go.RowKit Go.Proofs.YtcomnkbkkpeilaaDoorW.PrintWords Go.Proofs.YtcomnkbkkpeilaaDoorW.PrintLast Go.Proofs.YtcomnkbkkpeilaaDoorW.PrintMore
attribute [local go_sem] max2_int min2_int max_two min_two max_three min_three max_four min_four   -- for this text's walks alone
set_option linter.unusedVariables false
set_option linter.unusedSimpArgs false



def errW : Option Int → Value
  | none => .nilIface
  | some c => .iface 0 (.int .i64 c)
theorem errW_none : errW none = .nilIface := rfl
theorem errW_some (c : Int) : errW (some c) = .iface 0 (.int .i64 c) := rfl

theorem info28 : (Tryd.prog.info? 28).map (fun i => (i.zero, i.size, i.bytes)) = some (some (.agg #[(.int .i64 0), (.string ⟨#[]⟩), (.bool false), (.bool false), (.bool false), (.bool false)]), 6, 32) := by kernel_rfl
theorem info30 : (Tryd.prog.info? 30).map (fun i => (i.zero, i.size, i.bytes)) = some (some (.agg #[(.bool false), (.bool false), (.bool false), (.int .i64 0)]), 4, 16) := by kernel_rfl
-- the values' own types
/-! #### struct type 28 -/
structure S28 where
  f0 : Int
  f1 : ByteArray
  f2 : Bool
  f3 : Bool
  f4 : Bool
  f5 : Bool
def z28 : S28 := ⟨(0 : Int), (⟨#[]⟩ : ByteArray), false, false, false, false⟩
def k28 : Kd S28 := Kd.iso (Kd.pair (Kd.int .i64) (Kd.pair Kd.string (Kd.pair Kd.bool (Kd.pair Kd.bool (Kd.pair Kd.bool Kd.bool))))) (fun x : S28 => (x.f0, x.f1, x.f2, x.f3, x.f4, x.f5))
theorem k28_open {w : World} {x : S28} {cs : List Value} (h : k28.K w x cs) : cs = [.int .i64 x.f0, .string x.f1, .bool x.f2, .bool x.f3, .bool x.f4, .bool x.f5] := by
  obtain ⟨_, _, rfl, rfl, ⟨_, _, rfl, rfl, ⟨_, _, rfl, rfl, ⟨_, _, rfl, rfl, ⟨_, _, rfl, rfl, rfl⟩⟩⟩⟩⟩ := h
  exact rfl
theorem k28_openM {w : World} {base : Nat} {ok : Nat → Prop} {x : S28} {cs : List Value} (h : k28.M w base ok x cs) : cs = [.int .i64 x.f0, .string x.f1, .bool x.f2, .bool x.f3, .bool x.f4, .bool x.f5] := by
  obtain ⟨_, _, rfl, rfl, ⟨_, _, rfl, rfl, ⟨_, _, rfl, rfl, ⟨_, _, rfl, rfl, ⟨_, _, rfl, rfl, rfl⟩⟩⟩⟩⟩ := h
  exact rfl
theorem k28_mk (w : World) (x : S28)  : k28.K w x [.int .i64 x.f0, .string x.f1, .bool x.f2, .bool x.f3, .bool x.f4, .bool x.f5] := ⟨[.int .i64 x.f0], [.string x.f1, .bool x.f2, .bool x.f3, .bool x.f4, .bool x.f5], rfl, rfl, ⟨[.string x.f1], [.bool x.f2, .bool x.f3, .bool x.f4, .bool x.f5], rfl, rfl, ⟨[.bool x.f2], [.bool x.f3, .bool x.f4, .bool x.f5], rfl, rfl, ⟨[.bool x.f3], [.bool x.f4, .bool x.f5], rfl, rfl, ⟨[.bool x.f4], [.bool x.f5], rfl, rfl, rfl⟩⟩⟩⟩⟩
theorem k28_mkM (w : World) (base : Nat) (ok : Nat → Prop) (x : S28)  : k28.M w base ok x [.int .i64 x.f0, .string x.f1, .bool x.f2, .bool x.f3, .bool x.f4, .bool x.f5] := ⟨[.int .i64 x.f0], [.string x.f1, .bool x.f2, .bool x.f3, .bool x.f4, .bool x.f5], rfl, rfl, ⟨[.string x.f1], [.bool x.f2, .bool x.f3, .bool x.f4, .bool x.f5], rfl, rfl, ⟨[.bool x.f2], [.bool x.f3, .bool x.f4, .bool x.f5], rfl, rfl, ⟨[.bool x.f3], [.bool x.f4, .bool x.f5], rfl, rfl, ⟨[.bool x.f4], [.bool x.f5], rfl, rfl, rfl⟩⟩⟩⟩⟩
def rd_T28 (xs : List S28) (i : Int) : S28 := xs.getD i.toNat z28
theorem at_T28 {w : World} {A : Option Addr} {n : Nat} {xs : List S28} (h : Kd.C k28 w A n xs) (i : Int) (h0 : 0 ≤ i) (h1 : i < n) : ∃ ad , A = some ad ∧ w.cell? (ad.add (i.toNat * 6)) = some (.int .i64 (rd_T28 xs i).f0) ∧ w.cell? ⟨(ad.add (i.toNat * 6)).block, (ad.add (i.toNat * 6)).off + 1, none⟩ = some (.string (rd_T28 xs i).f1) ∧ w.cell? ⟨(ad.add (i.toNat * 6)).block, (ad.add (i.toNat * 6)).off + 2, none⟩ = some (.bool (rd_T28 xs i).f2) ∧ w.cell? ⟨(ad.add (i.toNat * 6)).block, (ad.add (i.toNat * 6)).off + 3, none⟩ = some (.bool (rd_T28 xs i).f3) ∧ w.cell? ⟨(ad.add (i.toNat * 6)).block, (ad.add (i.toNat * 6)).off + 4, none⟩ = some (.bool (rd_T28 xs i).f4) ∧ w.cell? ⟨(ad.add (i.toNat * 6)).block, (ad.add (i.toNat * 6)).off + 5, none⟩ = some (.bool (rd_T28 xs i).f5) := by
  obtain ⟨ad, c, e, _, hK, hc0⟩ := Kd.C_get h z28 i h0 h1
  have hc : ∀ j u, c[j]? = some u → w.cell? (ad.add (i.toNat * 6 + j)) = some u := hc0
  obtain rfl := k28_open hK
  exact ⟨ad, e, hc 0 _ rfl, by rw [← add_field _ _ 1 (by omega)]; exact hc 1 _ rfl, by rw [← add_field _ _ 2 (by omega)]; exact hc 2 _ rfl, by rw [← add_field _ _ 3 (by omega)]; exact hc 3 _ rfl, by rw [← add_field _ _ 4 (by omega)]; exact hc 4 _ rfl, by rw [← add_field _ _ 5 (by omega)]; exact hc 5 _ rfl⟩

def rd_L4 (xs : List (List S28)) (i : Int) : (List S28) := xs.getD i.toNat ([] : List S28)
theorem at_L4 {w : World} {A : Option Addr} {n : Nat} {xs : List (List S28)} (h : Kd.C (Kd.slice 28 k28) w A n xs) (i : Int) (h0 : 0 ≤ i) (h1 : i < n) : ∃ ad A0 c0, A = some ad ∧ w.cell? (ad.add i.toNat) = some (.slice A0 (rd_L4 xs i).length c0) ∧ (rd_L4 xs i).length ≤ c0 ∧ k28.C w A0 (rd_L4 xs i).length (rd_L4 xs i) := by
  obtain ⟨ad, c, e, _, hK, hc0⟩ := Kd.C_get h ([] : List S28) i h0 h1
  have hc : ∀ j u, c[j]? = some u → w.cell? (ad.add (i.toNat * 1 + j)) = some u := hc0
  obtain ⟨A0, c0, rfl, l0, g0⟩ := hK
  exact ⟨ad, A0, c0, e, by have hq := hc 0 _ rfl; rwa [Nat.mul_one, Nat.add_zero] at hq, l0, g0⟩

/-! #### struct type 30 -/
structure S30 where
  f0 : Bool
  f1 : Bool
  f2 : Bool
  f3 : Int
def z30 : S30 := ⟨false, false, false, (0 : Int)⟩
def k30 : Kd S30 := Kd.iso (Kd.pair Kd.bool (Kd.pair Kd.bool (Kd.pair Kd.bool (Kd.int .i64)))) (fun x : S30 => (x.f0, x.f1, x.f2, x.f3))
theorem k30_open {w : World} {x : S30} {cs : List Value} (h : k30.K w x cs) : cs = [.bool x.f0, .bool x.f1, .bool x.f2, .int .i64 x.f3] := by
  obtain ⟨_, _, rfl, rfl, ⟨_, _, rfl, rfl, ⟨_, _, rfl, rfl, rfl⟩⟩⟩ := h
  exact rfl
theorem k30_openM {w : World} {base : Nat} {ok : Nat → Prop} {x : S30} {cs : List Value} (h : k30.M w base ok x cs) : cs = [.bool x.f0, .bool x.f1, .bool x.f2, .int .i64 x.f3] := by
  obtain ⟨_, _, rfl, rfl, ⟨_, _, rfl, rfl, ⟨_, _, rfl, rfl, rfl⟩⟩⟩ := h
  exact rfl
theorem k30_mk (w : World) (x : S30)  : k30.K w x [.bool x.f0, .bool x.f1, .bool x.f2, .int .i64 x.f3] := ⟨[.bool x.f0], [.bool x.f1, .bool x.f2, .int .i64 x.f3], rfl, rfl, ⟨[.bool x.f1], [.bool x.f2, .int .i64 x.f3], rfl, rfl, ⟨[.bool x.f2], [.int .i64 x.f3], rfl, rfl, rfl⟩⟩⟩
theorem k30_mkM (w : World) (base : Nat) (ok : Nat → Prop) (x : S30)  : k30.M w base ok x [.bool x.f0, .bool x.f1, .bool x.f2, .int .i64 x.f3] := ⟨[.bool x.f0], [.bool x.f1, .bool x.f2, .int .i64 x.f3], rfl, rfl, ⟨[.bool x.f1], [.bool x.f2, .int .i64 x.f3], rfl, rfl, ⟨[.bool x.f2], [.int .i64 x.f3], rfl, rfl, rfl⟩⟩⟩
def rd_T30 (xs : List S30) (i : Int) : S30 := xs.getD i.toNat z30
theorem at_T30 {w : World} {A : Option Addr} {n : Nat} {xs : List S30} (h : Kd.C k30 w A n xs) (i : Int) (h0 : 0 ≤ i) (h1 : i < n) : ∃ ad , A = some ad ∧ w.cell? (ad.add (i.toNat * 4)) = some (.bool (rd_T30 xs i).f0) ∧ w.cell? ⟨(ad.add (i.toNat * 4)).block, (ad.add (i.toNat * 4)).off + 1, none⟩ = some (.bool (rd_T30 xs i).f1) ∧ w.cell? ⟨(ad.add (i.toNat * 4)).block, (ad.add (i.toNat * 4)).off + 2, none⟩ = some (.bool (rd_T30 xs i).f2) ∧ w.cell? ⟨(ad.add (i.toNat * 4)).block, (ad.add (i.toNat * 4)).off + 3, none⟩ = some (.int .i64 (rd_T30 xs i).f3) := by
  obtain ⟨ad, c, e, _, hK, hc0⟩ := Kd.C_get h z30 i h0 h1
  have hc : ∀ j u, c[j]? = some u → w.cell? (ad.add (i.toNat * 4 + j)) = some u := hc0
  obtain rfl := k30_open hK
  exact ⟨ad, e, hc 0 _ rfl, by rw [← add_field _ _ 1 (by omega)]; exact hc 1 _ rfl, by rw [← add_field _ _ 2 (by omega)]; exact hc 2 _ rfl, by rw [← add_field _ _ 3 (by omega)]; exact hc 3 _ rfl⟩

def rd_L6 (xs : List (List S30)) (i : Int) : (List S30) := xs.getD i.toNat ([] : List S30)
theorem at_L6 {w : World} {A : Option Addr} {n : Nat} {xs : List (List S30)} (h : Kd.C (Kd.slice 30 k30) w A n xs) (i : Int) (h0 : 0 ≤ i) (h1 : i < n) : ∃ ad A0 c0, A = some ad ∧ w.cell? (ad.add i.toNat) = some (.slice A0 (rd_L6 xs i).length c0) ∧ (rd_L6 xs i).length ≤ c0 ∧ k30.C w A0 (rd_L6 xs i).length (rd_L6 xs i) := by
  obtain ⟨ad, c, e, _, hK, hc0⟩ := Kd.C_get h ([] : List S30) i h0 h1
  have hc : ∀ j u, c[j]? = some u → w.cell? (ad.add (i.toNat * 1 + j)) = some u := hc0
  obtain ⟨A0, c0, rfl, l0, g0⟩ := hK
  exact ⟨ad, A0, c0, e, by have hq := hc 0 _ rfl; rwa [Nat.mul_one, Nat.add_zero] at hq, l0, g0⟩

end Go.Proofs.YtcomnkbkkpeilaaDoor.PA
