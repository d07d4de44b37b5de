/- A mask's text gives the mask back: plain. -/
import Derived.Test.YtjabjcgomnjpcaaDoorMt
import Derived.Test.YtjabjcgomnjpcaaDoorMq
namespace Go.Proofs.YtjabjcgomnjpcaaDoor.Given
open Go.RowKit Go.Proofs.YtjabjcgomnjpcaaDoorW.PrintWords Go.Proofs.YtjabjcgomnjpcaaDoorW.PrintLast Go.Proofs.YtjabjcgomnjpcaaDoorW.PrintMore Go.Proofs.YtjabjcgomnjpcaaDoor.PM
open Go.Proofs.YtjabjcgomnjpcaaDoor.Zp
set_option linter.unusedVariables false
set_option linter.unusedSimpArgs false

set_option maxRecDepth 100000 in
theorem bit_back : ∀ k : Fin 64, pieceV (bitNm k.val) = some (2 ^ k.val) := by decide +kernel
set_option maxRecDepth 100000 in
theorem bit_plain : ∀ k : Fin 64, (bitNm k.val).all (fun b => b != 44 && decide (b.toNat < 128)) = true := by decide +kernel
theorem nms_bits {m : Nat} : ∀ (f k : Nat) (x : List UInt8), k + f ≤ 64 → x ∈ nmsF m f k → ∃ i, i < 64 ∧ x = bitNm i
  | 0, k, x, h, hx => by cases hx
  | f + 1, k, x, h, hx => by
    unfold nmsF at hx
    split at hx
    · rw [List.mem_cons] at hx
      rcases hx with rfl | hx
      · exact ⟨k, by omega, rfl⟩
      · exact nms_bits f (k + 1) x (by omega) hx
    · exact nms_bits f (k + 1) x (by omega) hx
theorem nms_plain {m : Nat} {x : List UInt8} (hx : x ∈ nmsF m 64 0) : ∀ b ∈ x, b ≠ 44 ∧ b.toNat < 128 := by
  obtain ⟨i, hi, rfl⟩ := nms_bits 64 0 x (by omega) hx
  have := bit_plain ⟨i, hi⟩
  rw [List.all_eq_true] at this
  intro b hb
  have h := this b hb
  rw [Bool.and_eq_true] at h
  exact ⟨by simpa using h.1, of_decide_eq_true h.2⟩
theorem pieces_join : ∀ (L : List (List UInt8)), L ≠ [] → (∀ x ∈ L, ∀ b ∈ x, b ≠ 44) → pieces 44 [] (Lib.join L [44]) = L
  | [], h, _ => absurd rfl h
  | [x], _, hx => by
    have : Lib.join [x] [44] = x := by simp [Lib.join, List.intercalate]
    rw [this, pieces_no 44 x [] (hx x (List.mem_cons_self ..)), List.nil_append]
  | x :: y :: L, _, hx => by
    have e : Lib.join (x :: y :: L) [44] = x ++ 44 :: Lib.join (y :: L) [44] := by simp [Lib.join, List.intercalate]
    rw [e, pieces_append 44 x [] _ (hx x (List.mem_cons_self ..)), List.nil_append, pieces_join (y :: L) (by simp) (fun z hz => hx z (List.mem_cons_of_mem _ hz))]
theorem join_mem : ∀ (L : List (List UInt8)) (b : UInt8), b ∈ Lib.join L [44] → b = 44 ∨ ∃ x ∈ L, b ∈ x
  | [], b, h => by simp [Lib.join, List.intercalate] at h
  | [x], b, h => by
    have : Lib.join [x] [44] = x := by simp [Lib.join, List.intercalate]
    rw [this] at h
    exact .inr ⟨x, List.mem_cons_self .., h⟩
  | x :: y :: L, b, h => by
    have e : Lib.join (x :: y :: L) [44] = x ++ 44 :: Lib.join (y :: L) [44] := by simp [Lib.join, List.intercalate]
    rw [e, List.mem_append, List.mem_cons] at h
    rcases h with h | h | h
    · exact .inr ⟨x, List.mem_cons_self .., h⟩
    · exact .inl h
    · rcases join_mem (y :: L) b h with h2 | ⟨z, hz, hb⟩
      · exact .inl h2
      · exact .inr ⟨z, List.mem_cons_of_mem _ hz, hb⟩
theorem low_next {m k : Nat} (h : m.testBit k = true) : m % 2 ^ k ||| 2 ^ k = m % 2 ^ (k + 1) := by
  apply Nat.eq_of_testBit_eq
  intro i
  rw [Nat.testBit_or, Nat.testBit_mod_two_pow, Nat.testBit_mod_two_pow, Nat.testBit_two_pow]
  by_cases e : k = i
  · subst e
    simp [h]
  · have : (i < k) = (i < k + 1) := by simp; omega
    simp only [this, decide_eq_false e, Bool.or_false]
theorem low_skip {m k : Nat} (h : m.testBit k = false) : m % 2 ^ k = m % 2 ^ (k + 1) := by
  apply Nat.eq_of_testBit_eq
  intro i
  rw [Nat.testBit_mod_two_pow, Nat.testBit_mod_two_pow]
  by_cases e : k = i
  · subst e
    simp [h]
  · have : (i < k) = (i < k + 1) := by simp; omega
    simp only [this]
theorem set_nms (m : Nat) : ∀ (g k : Nat), k + g = 64 → setL (nmsF m g k) (m % 2 ^ k) = some (m % 2 ^ 64)
  | 0, k, h => by
    have : k = 64 := by omega
    subst this
    rfl
  | g + 1, k, h => by
    unfold nmsF
    cases hb : m.testBit k with
    | true =>
      rw [if_pos rfl]
      unfold setL
      rw [bit_back ⟨k, by omega⟩]
      show setL (nmsF m g (k + 1)) (m % 2 ^ k ||| 2 ^ k) = _
      rw [low_next hb]
      exact set_nms m g (k + 1) (by omega)
    | false =>
      rw [if_neg (by decide), low_skip hb]
      exact set_nms m g (k + 1) (by omega)
set_option maxRecDepth 100000 in
theorem none_back : setV none4 = some 0 := by decide +kernel
theorem spec_back {m : Nat} (hm : m < 2 ^ 64) : setV (specM m) = some m := by
  unfold specM
  by_cases h : nmsF m 64 0 = []
  · rw [if_pos h, nms_zero hm h]
    exact none_back
  · rw [if_neg h]
    unfold setV
    rw [pieces_join _ h (fun x hx b hb => (nms_plain hx b hb).1)]
    have := set_nms m 64 0 rfl
    rw [Nat.mod_eq_of_lt hm, show m % 2 ^ 0 = 0 by rw [Nat.pow_zero, Nat.mod_one]] at this
    exact this
theorem spec_ascii (m : Nat) : ∀ c ∈ specM m, c.toNat < 128 := by
  intro c hc
  unfold specM at hc
  split at hc
  · revert c; decide
  · rcases join_mem _ c hc with rfl | ⟨x, hx, hb⟩
    · decide
    · exact (nms_plain hx c hb).2
theorem spec_len (m : Nat) : (specM m).length ≤ 10000 := by
  unfold specM
  split
  · decide
  · have h1 := join_len (nmsF m 64 0) (nms_each m 64 0)
    have h2 := nms_len m 64 0
    omega
end Go.Proofs.YtjabjcgomnjpcaaDoor.Given
