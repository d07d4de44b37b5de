/- The walk of laws.FnMaskText. -/
import Derived.Test.YtjabjcgomnjpcaaDoorMk
namespace Go.Proofs.YtjabjcgomnjpcaaDoor.Given
open Go.RowKit Go.Proofs.YtjabjcgomnjpcaaDoorW.PrintWords Go.Proofs.YtjabjcgomnjpcaaDoorW.PrintLast Go.Proofs.YtjabjcgomnjpcaaDoorW.PrintMore Go.Proofs.YtjabjcgomnjpcaaDoor.PM
open Go.Proofs.YtjabjcgomnjpcaaDoor.Zp
set_option linter.unusedVariables false
set_option linter.unusedSimpArgs false

theorem nms_nil {m : Nat} : ∀ (f k : Nat), nmsF m f k = [] → ∀ i, k ≤ i → i < k + f → m.testBit i = false
  | 0, k, _, i, h1, h2 => by omega
  | f + 1, k, h, i, h1, h2 => by
    unfold nmsF at h
    cases hb : m.testBit k with
    | true => rw [hb, if_pos rfl] at h; cases h
    | false =>
      rw [hb, if_neg (by decide)] at h
      rcases Nat.eq_or_lt_of_le h1 with e | e
      · rw [← e]; exact hb
      · exact nms_nil f (k + 1) h i e (by omega)
theorem nms_zero {m : Nat} (hm : m < 2 ^ 64) (h : nmsF m 64 0 = []) : m = 0 := by
  apply Nat.eq_of_testBit_eq
  intro i
  rw [Nat.zero_testBit]
  rcases Nat.lt_or_ge i 64 with h1 | h1
  · exact nms_nil 64 0 h i (Nat.zero_le _) (by omega)
  · exact Nat.testBit_lt_two_pow (Nat.lt_of_lt_of_le hm (Nat.pow_le_pow_right (by decide) h1))
def outN (o : Option (ByteArray × Bool)) : Option (List UInt8) := match o with
  | some (n, true) => some (tl n)
  | _ => none
def oneB (a : Int) : Prop := a = 0 ∨ ∃ k : Fin 29, a = ((2 ^ k.val : Nat) : Int)
instance (a : Int) : Decidable (oneB a) := by unfold oneB; infer_instance
theorem nm_cases (a : Int) : (outN (encoder_encodingToName.f a)).isSome = true → oneB a := by
  have key : ∀ (c : Prop) [Decidable c] (x y : Option (ByteArray × Bool)), (c → oneB a) → ((outN y).isSome = true → oneB a) → (outN (if c then x else y)).isSome = true → oneB a := by
    intro c _ x y h1 h2 h
    by_cases hc : c
    · exact h1 hc
    · rw [if_neg hc] at h
      exact h2 h
  unfold encoder_encodingToName.f
  repeat' (with_reducible refine key _ _ _ (by rintro rfl; decide) ?_)
  intro h
  cases h
set_option maxRecDepth 100000 in
theorem one_is : ∀ k : Fin 29, textM (2 ^ k.val) = specM (2 ^ k.val) := by decide +kernel
theorem text_is {m : Nat} (hm : m < 2 ^ 64) : textM m = specM m := by
  cases h : nmB (m : Int) with
  | some n =>
    have h1 : oneB (m : Int) := nm_cases (m : Int) (by
      have : outN (encoder_encodingToName.f (m : Int)) = nmB (m : Int) := rfl
      rw [this, h]; rfl)
    rcases h1 with h1 | ⟨k, h1⟩
    · have : m = 0 := by omega
      subst this
      decide +kernel
    · have : m = 2 ^ k.val := by omega
      rw [this]
      exact one_is k
  | none =>
    unfold textM specM
    rw [h]
    have hne : nmsF m 64 0 ≠ [] := by
      intro e
      rw [nms_zero hm e] at h
      have : nmB ((0 : Nat) : Int) = some none4 := by decide +kernel
      rw [this] at h
      cases h
    rw [if_neg hne]
theorem impl6 (m : Nat) (w : World) (hm : m < 2 ^ 64) (h : Dv w) : Calls Tryd.prog 6 #[.int .u64 (m : Int)] w fun e w' => e = .returned (.string (strB (specM m))) ∧ Below w.heap.size w w' := by
  have c11 := string11 m w hm h
  rw [text_is hm] at c11
  obtain ⟨t, ht⟩ : ∃ t, strB (specM m) = t := ⟨_, rfl⟩
  rw [ht] at c11 ⊢
  clear ht
  go_enter Tryd.func6, Tryd.ntmps6
  go_wp2_with (go_at_call 11; refine c11.mono ?_; rintro e w1 ⟨rfl, h1⟩)
  go_ret
  exact ⟨rfl, h1⟩
theorem law3 (m : Int) (w : World) (h0 : 0 ≤ m) (h1 : m < 18446744073709551616) (h : Dv w) : Calls Tryd.prog 3 #[.int .u64 m] w fun e w' => e = .returned (.bool true) ∧ Below w.heap.size w w' := by
  obtain ⟨n, rfl⟩ : ∃ n : Nat, m = (n : Int) := ⟨m.toNat, by omega⟩
  have c6 := impl6 n w (by omega) h
  have c7 := fun W => spec_MaskText.calls 200 (n : Int) _ W (spec_is (show n < 2 ^ 64 by omega))
  obtain ⟨t, ht⟩ : ∃ t, strB (specM n) = t := ⟨_, rfl⟩
  rw [ht] at c6 c7
  clear ht h0 h1 h
  go_enter Tryd.func3, Tryd.ntmps3
  go_wp2_with (first | (go_at_call 6; refine c6.mono ?_; rintro e w1 ⟨rfl, h1⟩) | (go_at_call 7; refine (c7 _).mono ?_; rintro e w2 ⟨rfl, h2⟩))
  go_ret
  exact ⟨rfl, h1.trans (h2.mono h1.size)⟩
end Go.Proofs.YtjabjcgomnjpcaaDoor.Given
