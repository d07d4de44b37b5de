-- Written by a program of this session. -- slim
import Derived.Test.YtmkhkkfliecfdaaProg
import Derived.Below
import Derived.Deep.Draws
import Derived.Deep.AppendLies
import Derived.Maps.AppendAt
import Derived.OwnWalk
import Derived.Laws.BytesArg
import Derived.Laws.MakeOwn
import Derived.Laws.OwnMore
import Derived.Deep.OwnRows
import Derived.Tactics
import Derived.Lib.ConvBytes
import Derived.Laws.Slices
import Derived.WalkKit
import Derived.KernelRfl
import Derived.RowKit3
import Derived.Deep.LoopGhost
import Derived.Deep.QuietTactic
import Derived.BigQuiet
import Derived.WideLaws
import Derived.Deep.DeepCutAuto
import Derived.Deep.CutBlock
import Derived.Deep.RegionHeld3
import Derived.Laws.Rows
import Derived.Lib.AppendStr
import Derived.ArgAppend
import Derived.Laws.IdiomCopy
import Derived.OrdersHeld
import Derived.Laws.BitsLemmas
import Derived.RowKit
import Derived.Test.YtmkhkkfliecfdaaWWords
import Derived.Test.YtmkhkkfliecfdaaMm
import Derived.Test.YtmkhkkfliecfdaaWLast
import Derived.Test.YtmkhkkfliecfdaaWTab
import Derived.Test.YtmkhkkfliecfdaaWFour
import Derived.Test.YtmkhkkfliecfdaaWQPut
import Derived.Test.YtmkhkkfliecfdaaWEqStruct
import Derived.Test.YtmkhkkfliecfdaaWRepsOne
import Derived.Test.YtmkhkkfliecfdaaWInv
import Derived.Test.YtmkhkkfliecfdaaWGuard
namespace Go.Proofs.Ytmkhkkfliecfdaa.PT
open Go.RowKit Go.Proofs.YtmkhkkfliecfdaaW.PrintWords Go.Proofs.YtmkhkkfliecfdaaW.PrintLast Go.Proofs.Ytmkhkkfliecfdaa.Mm
attribute [local go_sem] mx_go mn_go
set_option linter.unusedVariables false
set_option linter.unusedSimpArgs false



def errW : Option Int → Value
 | none => .nilIface
 | some c => .iface 0 (.int .i64 c)
theorem errW_none : errW none = .nilIface := rfl
theorem errW_some (c : Int) : errW (some c) = .iface 0 (.int .i64 c) := rfl

theorem info3 : (Try.prog.info? 3).map (fun i => (i.zero, i.size, i.bytes)) = some (some (.int .i64 0), 1, 8) := by kernel_rfl
theorem info24 : (Try.prog.info? 24).map (fun i => (i.zero, i.size, i.bytes)) = some (some (.agg #[(.int .i64 0), (.int .i64 0)]), 2, 16) := by kernel_rfl
theorem info31 : (Try.prog.info? 31).map (fun i => (i.zero, i.size, i.bytes)) = some (some (.agg #[(.int .i64 0), (.int .i64 0), (.bool false)]), 3, 24) := by kernel_rfl
theorem info72 : (Try.prog.info? 72).map (fun i => (i.zero, i.size, i.bytes)) = some (some (.agg #[(.int .i64 0), (.int .i64 0), (.bool false)]), 3, 24) := by kernel_rfl
-- the values' own types
/-! #### struct type 24 -/
structure S24 where
 f0 : Int
 f1 : Int
def z24 : S24 := ⟨(0 : Int), (0 : Int)⟩
def k24 : Kd S24 := Kd.iso (Kd.pair (Kd.int .i64) (Kd.int .i64)) (fun x : S24 => (x.f0, x.f1))
theorem k24_open {w : World} {x : S24} {cs : List Value} (h : k24.K w x cs) : cs = [.int .i64 x.f0, .int .i64 x.f1] := by
 obtain ⟨_, _, rfl, rfl, rfl⟩ := h
 exact rfl
theorem k24_openM {w : World} {base : Nat} {ok : Nat → Prop} {x : S24} {cs : List Value} (h : k24.M w base ok x cs) : cs = [.int .i64 x.f0, .int .i64 x.f1] := by
 obtain ⟨_, _, rfl, rfl, rfl⟩ := h
 exact rfl
theorem k24_mk (w : World) (x : S24)  : k24.K w x [.int .i64 x.f0, .int .i64 x.f1] := ⟨[.int .i64 x.f0], [.int .i64 x.f1], rfl, rfl, rfl⟩
theorem k24_mkM (w : World) (base : Nat) (ok : Nat → Prop) (x : S24)  : k24.M w base ok x [.int .i64 x.f0, .int .i64 x.f1] := ⟨[.int .i64 x.f0], [.int .i64 x.f1], rfl, rfl, rfl⟩
def rd_T24 (xs : List S24) (i : Int) : S24 := xs.getD i.toNat z24
theorem at_T24 {w : World} {A : Option Addr} {n : Nat} {xs : List S24} (h : Kd.C k24 w A n xs) (i : Int) (h0 : 0 ≤ i) (h1 : i < n) : ∃ ad , A = some ad ∧ w.cell? (ad.add (i.toNat * 2)) = some (.int .i64 (rd_T24 xs i).f0) ∧ w.cell? ⟨(ad.add (i.toNat * 2)).block, (ad.add (i.toNat * 2)).off + 1, none⟩ = some (.int .i64 (rd_T24 xs i).f1) := by
 obtain ⟨ad, c, e, _, hK, hc0⟩ := Kd.C_get h z24 i h0 h1
 have hc : ∀ j u, c[j]? = some u → w.cell? (ad.add (i.toNat * 2 + j)) = some u := hc0
 obtain rfl := k24_open hK
 exact ⟨ad, e, hc 0 _ rfl, by rw [← add_field _ _ 1 (by omega)]; exact hc 1 _ rfl⟩

/-! #### struct type 48 -/
structure S48 where
 f0 : Int
 f1 : Int
def z48 : S48 := ⟨(0 : Int), (0 : Int)⟩
def k48 : Kd S48 := Kd.iso (Kd.pair (Kd.int .i64) (Kd.int .i64)) (fun x : S48 => (x.f0, x.f1))
theorem k48_open {w : World} {x : S48} {cs : List Value} (h : k48.K w x cs) : cs = [.int .i64 x.f0, .int .i64 x.f1] := by
 obtain ⟨_, _, rfl, rfl, rfl⟩ := h
 exact rfl
theorem k48_openM {w : World} {base : Nat} {ok : Nat → Prop} {x : S48} {cs : List Value} (h : k48.M w base ok x cs) : cs = [.int .i64 x.f0, .int .i64 x.f1] := by
 obtain ⟨_, _, rfl, rfl, rfl⟩ := h
 exact rfl
theorem k48_mk (w : World) (x : S48)  : k48.K w x [.int .i64 x.f0, .int .i64 x.f1] := ⟨[.int .i64 x.f0], [.int .i64 x.f1], rfl, rfl, rfl⟩
theorem k48_mkM (w : World) (base : Nat) (ok : Nat → Prop) (x : S48)  : k48.M w base ok x [.int .i64 x.f0, .int .i64 x.f1] := ⟨[.int .i64 x.f0], [.int .i64 x.f1], rfl, rfl, rfl⟩
def rd_T48 (xs : List S48) (i : Int) : S48 := xs.getD i.toNat z48
theorem at_T48 {w : World} {A : Option Addr} {n : Nat} {xs : List S48} (h : Kd.C k48 w A n xs) (i : Int) (h0 : 0 ≤ i) (h1 : i < n) : ∃ ad , A = some ad ∧ w.cell? (ad.add (i.toNat * 2)) = some (.int .i64 (rd_T48 xs i).f0) ∧ w.cell? ⟨(ad.add (i.toNat * 2)).block, (ad.add (i.toNat * 2)).off + 1, none⟩ = some (.int .i64 (rd_T48 xs i).f1) := by
 obtain ⟨ad, c, e, _, hK, hc0⟩ := Kd.C_get h z48 i h0 h1
 have hc : ∀ j u, c[j]? = some u → w.cell? (ad.add (i.toNat * 2 + j)) = some u := hc0
 obtain rfl := k48_open hK
 exact ⟨ad, e, hc 0 _ rfl, by rw [← add_field _ _ 1 (by omega)]; exact hc 1 _ rfl⟩

def rd_L3 (xs : List (List S48)) (i : Int) : (List S48) := xs.getD i.toNat ([] : List S48)
theorem at_L3 {w : World} {A : Option Addr} {n : Nat} {xs : List (List S48)} (h : Kd.C (Kd.slice 48 k48) w A n xs) (i : Int) (h0 : 0 ≤ i) (h1 : i < n) : ∃ ad A0 c0, A = some ad ∧ w.cell? (ad.add i.toNat) = some (.slice A0 (rd_L3 xs i).length c0) ∧ (rd_L3 xs i).length ≤ c0 ∧ k48.C w A0 (rd_L3 xs i).length (rd_L3 xs i) := by
 obtain ⟨ad, c, e, _, hK, hc0⟩ := Kd.C_get h ([] : List S48) i h0 h1
 have hc : ∀ j u, c[j]? = some u → w.cell? (ad.add (i.toNat * 1 + j)) = some u := hc0
 obtain ⟨A0, c0, rfl, l0, g0⟩ := hK
 exact ⟨ad, A0, c0, e, by have hq := hc 0 _ rfl; rwa [Nat.mul_one, Nat.add_zero] at hq, l0, g0⟩

def rd_L4 (xs : List (List S24)) (i : Int) : (List S24) := xs.getD i.toNat ([] : List S24)
theorem at_L4 {w : World} {A : Option Addr} {n : Nat} {xs : List (List S24)} (h : Kd.C (Kd.slice 24 k24) w A n xs) (i : Int) (h0 : 0 ≤ i) (h1 : i < n) : ∃ ad A0 c0, A = some ad ∧ w.cell? (ad.add i.toNat) = some (.slice A0 (rd_L4 xs i).length c0) ∧ (rd_L4 xs i).length ≤ c0 ∧ k24.C w A0 (rd_L4 xs i).length (rd_L4 xs i) := by
 obtain ⟨ad, c, e, _, hK, hc0⟩ := Kd.C_get h ([] : List S24) i h0 h1
 have hc : ∀ j u, c[j]? = some u → w.cell? (ad.add (i.toNat * 1 + j)) = some u := hc0
 obtain ⟨A0, c0, rfl, l0, g0⟩ := hK
 exact ⟨ad, A0, c0, e, by have hq := hc 0 _ rfl; rwa [Nat.mul_one, Nat.add_zero] at hq, l0, g0⟩

/-! #### struct type 72 -/
structure S72 where
 f0 : S48
 f1 : Bool
def z72 : S72 := ⟨z48, false⟩
def k72 : Kd S72 := Kd.iso (Kd.pair k48 Kd.bool) (fun x : S72 => (x.f0, x.f1))
theorem k72_open {w : World} {x : S72} {cs : List Value} (h : k72.K w x cs) : cs = [.int .i64 x.f0.f0, .int .i64 x.f0.f1, .bool x.f1] := by
 obtain ⟨_, _, rfl, s0, rfl⟩ := h
 obtain rfl := k48_open s0
 exact rfl
theorem k72_openM {w : World} {base : Nat} {ok : Nat → Prop} {x : S72} {cs : List Value} (h : k72.M w base ok x cs) : cs = [.int .i64 x.f0.f0, .int .i64 x.f0.f1, .bool x.f1] := by
 obtain ⟨_, _, rfl, s0, rfl⟩ := h
 obtain rfl := k48_openM s0
 exact rfl
theorem k72_mk (w : World) (x : S72)  : k72.K w x [.int .i64 x.f0.f0, .int .i64 x.f0.f1, .bool x.f1] := ⟨[.int .i64 x.f0.f0, .int .i64 x.f0.f1], [.bool x.f1], rfl, (k48_mk w x.f0 ), rfl⟩
theorem k72_mkM (w : World) (base : Nat) (ok : Nat → Prop) (x : S72)  : k72.M w base ok x [.int .i64 x.f0.f0, .int .i64 x.f0.f1, .bool x.f1] := ⟨[.int .i64 x.f0.f0, .int .i64 x.f0.f1], [.bool x.f1], rfl, (k48_mkM w base ok x.f0 ), rfl⟩
def rd_T72 (xs : List S72) (i : Int) : S72 := xs.getD i.toNat z72
theorem at_T72 {w : World} {A : Option Addr} {n : Nat} {xs : List S72} (h : Kd.C k72 w A n xs) (i : Int) (h0 : 0 ≤ i) (h1 : i < n) : ∃ ad , A = some ad ∧ w.cell? (ad.add (i.toNat * 3)) = some (.int .i64 (rd_T72 xs i).f0.f0) ∧ w.cell? ⟨(ad.add (i.toNat * 3)).block, (ad.add (i.toNat * 3)).off + 1, none⟩ = some (.int .i64 (rd_T72 xs i).f0.f1) ∧ w.cell? ⟨(ad.add (i.toNat * 3)).block, (ad.add (i.toNat * 3)).off + 2, none⟩ = some (.bool (rd_T72 xs i).f1) := by
 obtain ⟨ad, c, e, _, hK, hc0⟩ := Kd.C_get h z72 i h0 h1
 have hc : ∀ j u, c[j]? = some u → w.cell? (ad.add (i.toNat * 3 + j)) = some u := hc0
 obtain rfl := k72_open hK
 exact ⟨ad, e, hc 0 _ rfl, by rw [← add_field _ _ 1 (by omega)]; exact hc 1 _ rfl, by rw [← add_field _ _ 2 (by omega)]; exact hc 2 _ rfl⟩

/-! #### struct type 31 -/
structure S31 where
 f0 : S24
 f1 : Bool
def z31 : S31 := ⟨z24, false⟩
def k31 : Kd S31 := Kd.iso (Kd.pair k24 Kd.bool) (fun x : S31 => (x.f0, x.f1))
theorem k31_open {w : World} {x : S31} {cs : List Value} (h : k31.K w x cs) : cs = [.int .i64 x.f0.f0, .int .i64 x.f0.f1, .bool x.f1] := by
 obtain ⟨_, _, rfl, s0, rfl⟩ := h
 obtain rfl := k24_open s0
 exact rfl
theorem k31_openM {w : World} {base : Nat} {ok : Nat → Prop} {x : S31} {cs : List Value} (h : k31.M w base ok x cs) : cs = [.int .i64 x.f0.f0, .int .i64 x.f0.f1, .bool x.f1] := by
 obtain ⟨_, _, rfl, s0, rfl⟩ := h
 obtain rfl := k24_openM s0
 exact rfl
theorem k31_mk (w : World) (x : S31)  : k31.K w x [.int .i64 x.f0.f0, .int .i64 x.f0.f1, .bool x.f1] := ⟨[.int .i64 x.f0.f0, .int .i64 x.f0.f1], [.bool x.f1], rfl, (k24_mk w x.f0 ), rfl⟩
theorem k31_mkM (w : World) (base : Nat) (ok : Nat → Prop) (x : S31)  : k31.M w base ok x [.int .i64 x.f0.f0, .int .i64 x.f0.f1, .bool x.f1] := ⟨[.int .i64 x.f0.f0, .int .i64 x.f0.f1], [.bool x.f1], rfl, (k24_mkM w base ok x.f0 ), rfl⟩
def rd_T31 (xs : List S31) (i : Int) : S31 := xs.getD i.toNat z31
theorem at_T31 {w : World} {A : Option Addr} {n : Nat} {xs : List S31} (h : Kd.C k31 w A n xs) (i : Int) (h0 : 0 ≤ i) (h1 : i < n) : ∃ ad , A = some ad ∧ w.cell? (ad.add (i.toNat * 3)) = some (.int .i64 (rd_T31 xs i).f0.f0) ∧ w.cell? ⟨(ad.add (i.toNat * 3)).block, (ad.add (i.toNat * 3)).off + 1, none⟩ = some (.int .i64 (rd_T31 xs i).f0.f1) ∧ w.cell? ⟨(ad.add (i.toNat * 3)).block, (ad.add (i.toNat * 3)).off + 2, none⟩ = some (.bool (rd_T31 xs i).f1) := by
 obtain ⟨ad, c, e, _, hK, hc0⟩ := Kd.C_get h z31 i h0 h1
 have hc : ∀ j u, c[j]? = some u → w.cell? (ad.add (i.toNat * 3 + j)) = some u := hc0
 obtain rfl := k31_open hK
 exact ⟨ad, e, hc 0 _ rfl, by rw [← add_field _ _ 1 (by omega)]; exact hc 1 _ rfl, by rw [← add_field _ _ 2 (by omega)]; exact hc 2 _ rfl⟩

end Go.Proofs.Ytmkhkkfliecfdaa.PT
