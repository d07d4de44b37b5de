/- strconv.ParseUint at base 0: what it answers is a function of the text. -/
import Derived.Test.YtjabjcgomnjpcaaDoorZp
import Derived.Test.YtjabjcgomnjpcaaDoorPMx61
import Derived.Test.YtjabjcgomnjpcaaDoorPMx62
import Derived.Lib.ConvBytes
namespace Go.Proofs.YtjabjcgomnjpcaaDoor.Given
open Go.RowKit Go.Proofs.YtjabjcgomnjpcaaDoorW.PrintWords Go.Proofs.YtjabjcgomnjpcaaDoorW.PrintLast Go.Proofs.YtjabjcgomnjpcaaDoorW.PrintMore Go.Proofs.YtjabjcgomnjpcaaDoor.PM
open Go.Proofs.YtjabjcgomnjpcaaDoor.Zp
set_option linter.unusedVariables false
set_option linter.unusedSimpArgs false

theorem below_drewN' {B : Nat} {a w : World} (h : Below B a w) : ∀ n, Below B a (w.drewN n)
  | 0 => h
  | n + 1 => (below_drewN' h n).drew
theorem u64_over {x : Int} (h1 : 18446744073709551615 < x) (h2 : x < 36893488147419103232) : IntKind.u64.wrap x = x - 18446744073709551616 := by
  show x % 18446744073709551616 = _
  omega
theorem below_trans' {a b c : World} (h : Below a.heap.size a b) (h2 : Below b.heap.size b c) : Below a.heap.size a c :=
  h.trans ⟨h2.os, h2.tape, h2.output, h2.size, fun k hk => h2.block k (Nat.lt_of_lt_of_le hk h.size)⟩
/-- The value of a digit, in either case. -/
def dg (c : Nat) : Option Nat := if 48 ≤ c ∧ c ≤ 57 then some (c - 48) else if 97 ≤ c ||| 32 ∧ c ||| 32 ≤ 122 then some ((c ||| 32) - 87) else none
/-- The number of digits, and whether an underscore was among them. -/
def numR (b : Nat) : List UInt8 → Nat → Bool → Option (Nat × Bool)
  | [], n, us => some (n, us)
  | c :: l, n, us => if c = 95 then numR b l n true else match dg c.toNat with
    | none => none
    | some d => if d ≥ b then none else if n ≥ 18446744073709551615 / b + 1 then none else if n * b + d > 18446744073709551615 then none else numR b l (n * b + d) us
theorem numR_cons (b : Nat) (c : UInt8) (l : List UInt8) (n : Nat) (us : Bool) : numR b (c :: l) n us = if c = 95 then numR b l n true else match dg c.toNat with
    | none => none
    | some d => if d ≥ b then none else if n ≥ 18446744073709551615 / b + 1 then none else if n * b + d > 18446744073709551615 then none else numR b l (n * b + d) us := by rw [numR]
/-- The base that a text's beginning tells, and what stands behind it. -/
def bas (l : List UInt8) : Nat × List UInt8 :=
  if l.head? = some 48 then
    if 3 ≤ l.length ∧ ((l.getD 1 0).toNat ||| 32) = 98 then (2, l.drop 2)
    else if 3 ≤ l.length ∧ ((l.getD 1 0).toNat ||| 32) = 111 then (8, l.drop 2)
    else if 3 ≤ l.length ∧ ((l.getD 1 0).toNat ||| 32) = 120 then (16, l.drop 2)
    else (8, l.drop 1)
  else (10, l)
mutual
theorem l0_tot : ∀ (n k : Nat) (s : ByteArray) (c : Int) (i : Nat) (h : Bool), s.size ≤ 1000000000 → s.size - i ≤ n → 2 * n + 2 ≤ k → ∃ r, strconv_underscoreOK.l0 k s c (i : Int) h = some r
  | n, 0, s, c, i, h, hs, h1, h2 => by omega
  | n, k + 1, s, c, i, h, hs, h1, h2 => by
    unfold strconv_underscoreOK.l0
    by_cases hi : i < s.size
    · have hj := fun x => j5_tot n k s c i h x hs hi h1 (by omega)
      rw [if_pos (by omega), if_pos (by omega)]
      simp only [strconv_lower.f, Option.bind_some]
      repeat' split
      all_goals exact hj _
    · rw [if_neg (by omega)]
      exact ⟨_, rfl⟩
theorem j5_tot : ∀ (n k : Nat) (s : ByteArray) (c : Int) (i : Nat) (h x : Bool), s.size ≤ 1000000000 → i < s.size → s.size - i ≤ n → 2 * n + 1 ≤ k → ∃ r, strconv_underscoreOK.j5 k s c (i : Int) h x = some r
  | n, 0, s, c, i, h, x, hs, hi, h1, h2 => by omega
  | 0, k + 1, s, c, i, h, x, hs, hi, h1, h2 => by omega
  | n + 1, k + 1, s, c, i, h, x, hs, hi, h1, h2 => by
    have hl := fun c' => l0_tot n k s c' (i + 1) h hs (by omega) (by omega)
    have w1 : wrap64 ((i : Int) + 1) = ((i + 1 : Nat) : Int) := w64n (k := 1) (by omega)
    unfold strconv_underscoreOK.j5
    rw [w1, if_pos (show (0 : Int) ≤ (i : Int) by omega), if_pos (show (i : Int) < (s.size : Int) by omega)]
    repeat' split
    all_goals first
      | exact hl _
      | exact ⟨_, rfl⟩
end
theorem j3_tot (k : Nat) (s : ByteArray) (c : Int) (i : Nat) (h : Bool) (hs : s.size ≤ 1000000000) (hk : 2 * s.size + 3 ≤ k) : ∃ r, strconv_underscoreOK.j3 k s c (i : Int) h = some r := by
  obtain ⟨k, rfl⟩ : ∃ m, k = m + 1 := ⟨k - 1, by omega⟩
  unfold strconv_underscoreOK.j3
  exact l0_tot s.size k s c i h hs (by omega) (by omega)
theorem j2_tot (k : Nat) (s : ByteArray) (c : Int) (i : Nat) (h x : Bool) (hs : s.size ≤ 1000000000) (hk : 2 * s.size + 4 ≤ k) (hx : x = true → 1 < s.size) : ∃ r, strconv_underscoreOK.j2 k s c (i : Int) h x = some r := by
  obtain ⟨k, rfl⟩ : ∃ m, k = m + 1 := ⟨k - 1, by omega⟩
  unfold strconv_underscoreOK.j2
  simp only [strconv_lower.f, Option.bind_some]
  split
  · rename_i e
    rw [if_pos (by have := hx e; omega)]
    exact j3_tot k s 48 2 _ hs (by omega)
  · exact j3_tot k s c i h hs (by omega)
theorem j1_tot (k : Nat) (s : ByteArray) (c : Int) (i : Nat) (hs : s.size ≤ 1000000000) (hk : 2 * s.size + 5 ≤ k) : ∃ r, strconv_underscoreOK.j1 k s c (i : Int) = some r := by
  obtain ⟨k, rfl⟩ : ∃ m, k = m + 1 := ⟨k - 1, by omega⟩
  unfold strconv_underscoreOK.j1
  simp only [strconv_lower.f, Option.bind_some]
  by_cases h2 : (s.size : Int) ≥ 2
  · rw [if_pos h2, if_pos (by omega), if_pos (show (1 : Int) < (s.size : Int) by omega)]
    repeat' split
    all_goals exact j2_tot k s c i false _ hs (by omega) (fun _ => by omega)
  · rw [if_neg h2]
    exact j2_tot k s c i false false hs (by omega) (fun e => by cases e)
theorem j0_tot (k : Nat) (s : ByteArray) (c : Int) (i : Nat) (x : Bool) (hs : s.size ≤ 1000000000) (hk : 2 * s.size + 6 ≤ k) (hx : x = true → 1 ≤ s.size) : ∃ r, strconv_underscoreOK.j0 k s c (i : Int) x = some r := by
  obtain ⟨k, rfl⟩ : ∃ m, k = m + 1 := ⟨k - 1, by omega⟩
  rw [strconv_underscoreOK.j0]
  cases x with
  | true =>
    have := hx rfl
    rw [if_pos rfl, if_pos (by omega)]
    have hz : (s.extract 1 s.size).size = s.size - 1 := by rw [extract_drop, size_strB, List.length_drop, tl_size]
    exact j1_tot k _ c i (by omega) (by omega)
  | false =>
    rw [if_neg (by decide)]
    exact j1_tot k s c i hs (by omega)
theorem uok_tot (s : ByteArray) (hs : s.size ≤ 1000000000) : ∃ r, strconv_underscoreOK.f (10 * s.size + 20) s = some r := by
  unfold strconv_underscoreOK.f
  by_cases h1 : (s.size : Int) ≥ 1
  · rw [if_pos h1, if_pos (by omega)]
    split
    · exact j0_tot _ s 94 0 true hs (by omega) (fun _ => by omega)
    · exact j0_tot _ s 94 0 _ hs (by omega) (fun _ => by omega)
  · rw [if_neg h1]
    exact j0_tot _ s 94 0 false hs (by omega) (fun e => by cases e)
def uok (s : ByteArray) : Bool := (strconv_underscoreOK.f (10 * s.size + 20) s).getD false
def numE (l : List UInt8) : Option Nat := if l = [] then none else match numR (bas l).1 (bas l).2 0 false with
  | none => none
  | some (n, us) => if us = true ∧ uok (strB l) = false then none else some n
theorem or32 : ∀ n : Fin 256, Go.bits .or .u8 (n.val : Int) 32 = ((n.val ||| 32 : Nat) : Int) := by decide +kernel
theorem lower51 (c : Nat) (hc : c < 256) (w : World) : Calls Tryd.prog 51 #[.int .u8 (c : Int)] w fun e w' => e = .returned (.int .u8 ((c ||| 32 : Nat) : Int)) ∧ w' = w := by
  have h := or32 ⟨c, hc⟩
  dsimp only at h
  obtain ⟨R, hR⟩ : ∃ R : Int, ((c ||| 32 : Nat) : Int) = R := ⟨_, rfl⟩
  rw [hR] at h ⊢
  clear hR
  go_enter Tryd.func51, Tryd.ntmps51
  go_wp2
  go_ret
  exact ⟨rfl, rfl⟩
theorem under52 (s : ByteArray) (w : World) (hs : s.size ≤ 1000000000) : Calls Tryd.prog 52 #[.string s] w fun e w' => e = .returned (.bool (uok s)) ∧ Below w.heap.size w w' := by
  obtain ⟨r, hr⟩ := uok_tot s hs
  have : uok s = r := by unfold uok; rw [hr]; rfl
  rw [this]
  refine (strconv_underscoreOK.calls _ s r w hr).mono ?_
  rintro e w' ⟨rfl, n, rfl⟩
  exact ⟨rfl, below_drewN' (Below.refl _ _) n⟩
/-- What ParseUint gives within. -/
def ans35 (r : Option Nat) (v : Value) : Prop := match r with
  | some n => v = .tuple #[.int .u64 (n : Int), .nilIface]
  | none => ∃ x k, (k = 1 ∨ k = 2) ∧ v = .tuple #[.int .u64 x, .iface 88 (.int .i64 k)]
theorem bas_b (l : List UInt8) : (bas l).1 = 2 ∨ (bas l).1 = 8 ∨ (bas l).1 = 10 ∨ (bas l).1 = 16 := by
  unfold bas
  repeat' split
  all_goals simp
theorem bas_len (l : List UInt8) : (bas l).2.length ≤ l.length := by
  unfold bas
  repeat' split
  all_goals simp
end Go.Proofs.YtjabjcgomnjpcaaDoor.Given
