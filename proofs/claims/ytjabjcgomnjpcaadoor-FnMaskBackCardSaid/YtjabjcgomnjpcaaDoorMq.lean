/- What a mask's text means: plain. -/
import Derived.Test.YtjabjcgomnjpcaaDoorMp0
import Derived.Test.YtjabjcgomnjpcaaDoorPMx60
import Derived.Test.YtjabjcgomnjpcaaDoorPMx44
import Derived.Test.YtjabjcgomnjpcaaDoorPMx45
import Derived.Lib.Space
namespace Go.Proofs.YtjabjcgomnjpcaaDoor.Given
open Go.RowKit Go.Proofs.YtjabjcgomnjpcaaDoorW.PrintWords Go.Proofs.YtjabjcgomnjpcaaDoorW.PrintLast Go.Proofs.YtjabjcgomnjpcaaDoorW.PrintMore Go.Proofs.YtjabjcgomnjpcaaDoor.PM
open Go.Proofs.YtjabjcgomnjpcaaDoor.Zp
set_option linter.unusedVariables false
set_option linter.unusedSimpArgs false

theorem or64 (a b : Nat) (ha : a < 2 ^ 64) (hb : b < 2 ^ 64) : Go.bits .or .u64 (a : Int) (b : Int) = ((a ||| b : Nat) : Int) := by
  have h : (BitVec.ofInt 64 (a : Int) ||| BitVec.ofInt 64 (b : Int)).toNat = a ||| b := by
    rw [BitVec.toNat_or, BitVec.ofInt_natCast, BitVec.ofInt_natCast, BitVec.toNat_ofNat, BitVec.toNat_ofNat, Nat.mod_eq_of_lt ha, Nat.mod_eq_of_lt hb]
  have hlt : a ||| b < 2 ^ 64 := Nat.or_lt_two_pow ha hb
  have h2 : Go.bits .or .u64 (a : Int) (b : Int) = IntKind.u64.wrap (((BitVec.ofInt 64 (a : Int) ||| BitVec.ofInt 64 (b : Int)).toNat : Nat) : Int) := rfl
  rw [h2, h]
  show ((a ||| b : Nat) : Int) % 18446744073709551616 = _
  omega
theorem dite_ex {c : Prop} [Decidable c] {a b : Option (Int × Bool)} (h1 : ∃ v x, a = some (v, x) ∧ 0 ≤ v ∧ v < 18446744073709551616) (h2 : ∃ v x, b = some (v, x) ∧ 0 ≤ v ∧ v < 18446744073709551616) : ∃ v x, (if c then a else b) = some (v, x) ∧ 0 ≤ v ∧ v < 18446744073709551616 := by
  split
  · exact h1
  · exact h2
theorem nt_tot (s : ByteArray) : ∃ v b, encoder_nameToEncoding.f s = some (v, b) ∧ 0 ≤ v ∧ v < 18446744073709551616 := by
  unfold encoder_nameToEncoding.f
  repeat' (with_reducible refine dite_ex ?_ ?_)
  all_goals exact ⟨_, _, rfl, by decide, by decide⟩
theorem numR_le (b : Nat) : ∀ (l : List UInt8) (n : Nat) (us : Bool) (v : Nat) (u : Bool), n ≤ 18446744073709551615 → numR b l n us = some (v, u) → v ≤ 18446744073709551615
  | [], n, us, v, u, hn, h => by
    unfold numR at h
    cases h
    exact hn
  | c :: l, n, us, v, u, hn, h => by
    rw [numR_cons] at h
    split at h
    · exact numR_le b l n true v u hn h
    · split at h
      · cases h
      · split at h
        · cases h
        · split at h
          · cases h
          · split at h
            · cases h
            · exact numR_le b l _ us v u (by omega) h
theorem numE_lt {l : List UInt8} {n : Nat} (h : numE l = some n) : n < 2 ^ 64 := by
  unfold numE at h
  split at h
  · cases h
  · split at h
    · cases h
    · rename_i n' us e
      split at h
      · cases h
      · cases h
        have := numR_le _ _ _ _ _ _ (by omega) e
        omega
/-- What a piece of a mask's text means. -/
def pieceV (p : List UInt8) : Option Nat := match encoder_nameToEncoding.f (strB (Lib.trimSpace p)) with
  | some (v, true) => some v.toNat
  | _ => numE (Lib.trimSpace p)
theorem pieceV_lt {p : List UInt8} {n : Nat} (h : pieceV p = some n) : n < 2 ^ 64 := by
  unfold pieceV at h
  obtain ⟨v, b, hf, h1, h2⟩ := nt_tot (strB (Lib.trimSpace p))
  rw [hf] at h
  cases b with
  | true => cases h; omega
  | false => exact numE_lt h
def setL : List (List UInt8) → Nat → Option Nat
  | [], n => some n
  | p :: ps, n => match pieceV p with
    | none => none
    | some v => setL ps (n ||| v)
theorem setL_lt : ∀ (ps : List (List UInt8)) (n m : Nat), n < 2 ^ 64 → setL ps n = some m → m < 2 ^ 64
  | [], n, m, hn, h => by cases h; exact hn
  | p :: ps, n, m, hn, h => by
    unfold setL at h
    split at h
    · cases h
    · rename_i v e
      exact setL_lt ps _ m (Nat.or_lt_two_pow hn (pieceV_lt e)) h
theorem setL_append : ∀ (ps qs : List (List UInt8)) (n : Nat), setL (ps ++ qs) n = (setL ps n).bind (setL qs)
  | [], qs, n => rfl
  | p :: ps, qs, n => by
    show setL (p :: (ps ++ qs)) n = _
    unfold setL
    split
    · rfl
    · exact setL_append ps qs _
theorem setL_or : ∀ (ps : List (List UInt8)) (n : Nat), setL ps n = (setL ps 0).map (n ||| ·)
  | [], n => by simp [setL]
  | p :: ps, n => by
    unfold setL
    split
    · rfl
    · rename_i v e
      rw [setL_or ps (n ||| v), setL_or ps (0 ||| v), Option.map_map]
      congr 1
      funext x
      simp [Nat.or_assoc]
/-- What a mask's text means. -/
def setV (l : List UInt8) : Option Nat := setL (pieces 44 [] l) 0
theorem setV_two (a b : List UInt8) : setV (a ++ 44 :: b) = (setV a).bind fun x => (setV b).map fun y => x ||| y := by
  unfold setV
  rw [pieces_two, setL_append]
  cases setL (pieces 44 [] a) 0 with
  | none => rfl
  | some x => exact setL_or _ x
theorem setV_lt {l : List UInt8} {n : Nat} (h : setV l = some n) : n < 2 ^ 64 := setL_lt _ 0 n (by omega) h
theorem trim_mem {l : List UInt8} {b : UInt8} (h : b ∈ Lib.trimSpace l) : b ∈ l := by
  unfold Lib.trimSpace at h
  rw [List.mem_reverse] at h
  have h2 := (List.dropWhile_suffix _).subset h
  rw [List.mem_reverse] at h2
  exact (List.dropWhile_suffix _).subset h2
theorem trim_len (l : List UInt8) : (Lib.trimSpace l).length ≤ l.length := by
  unfold Lib.trimSpace
  rw [List.length_reverse]
  have h1 := (List.dropWhile_suffix Lib.isSp (l := (l.dropWhile Lib.isSp).reverse)).length_le
  have h2 := (List.dropWhile_suffix Lib.isSp (l := l)).length_le
  rw [List.length_reverse] at h1
  omega
theorem pieces_mem (c : UInt8) : ∀ (l p q : List UInt8) (b : UInt8), q ∈ pieces c p l → b ∈ q → b ∈ p ∨ b ∈ l
  | [], p, q, b, h, h2 => by
    rw [pieces_nil, List.mem_singleton] at h
    subst h
    exact .inl h2
  | x :: l, p, q, b, h, h2 => by
    rw [pieces_cons] at h
    split at h
    · rw [List.mem_cons] at h
      rcases h with rfl | h
      · exact .inl h2
      · rcases pieces_mem c l [] q b h h2 with h3 | h3
        · cases h3
        · exact .inr (List.mem_cons_of_mem _ h3)
    · rcases pieces_mem c l (p ++ [x]) q b h h2 with h3 | h3
      · rw [List.mem_append, List.mem_singleton] at h3
        rcases h3 with h3 | rfl
        · exact .inl h3
        · exact .inr (List.mem_cons_self ..)
      · exact .inr (List.mem_cons_of_mem _ h3)
set_option maxRecDepth 100000 in
theorem dot_is : setV [68, 111, 116] = some 33554432 := by decide +kernel
end Go.Proofs.YtjabjcgomnjpcaaDoor.Given
