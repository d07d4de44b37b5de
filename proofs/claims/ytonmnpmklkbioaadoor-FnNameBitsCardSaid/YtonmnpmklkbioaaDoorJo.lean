/- What is written of a text between two letters: plain. -/
import Derived.Test.YtonmnpmklkbioaaDoorGg
namespace Go.Proofs.YtonmnpmklkbioaaDoor.Given
open Go.RowKit
open Go.Proofs.YtonmnpmklkbioaaDoor.Pt (Ch Tk flat chars chs isBad sgn sof signed betw leftC rightC encC dotC hexc isC run Pr hd qt)
open Go.Proofs.YtonmnpmklkbioaaDoor.Sy (tl strB tl_size strB_tl tl_strB tkm tkm_ok hasB bitsOf)
set_option linter.unusedVariables false
set_option linter.unusedSimpArgs false

theorem good_x : Pt.Good 120 := by unfold Pt.Good; omega
theorem rune_x : Lib.encodeRune ((120 : Nat) : Int) = [120] := by decide
theorem chars_x (a : List UInt8) : chars (120 :: (a ++ [120])) = .g 120 :: (chars a ++ [.g 120]) := by
  have h1 : chars ([120] : List UInt8) = [.g 120] := by
    have := Pt.chars_flat [.g 120] ⟨good_x, trivial⟩
    exact this
  have h2 : chars (a ++ [120]) = chars a ++ [.g 120] := by
    rw [Pt.chars_append (by decide), h1]
  have h3 : Pr (.g 120 :: (chars a ++ [.g 120])) := ⟨good_x, by rw [← h2]; exact Pt.pr_chars _⟩
  have h4 := Pt.chars_flat _ h3
  rw [Pt.flat_cons, ← h2, Pt.flat_chars'] at h4
  rw [h2] at h4
  exact h4
theorem signed_x {P : Nat → Bool} (h : P 120 = false) : signed P (.g 120) = none := by
  rw [Pt.signed_g, h]
  rfl
theorem betw_x (m : Int) : betw (tkm m) (.g 120) = [.g 120] := by
  rw [Pt.betw_g, if_neg (by decide), signed_x (by rfl)]
  rfl
/-- The bytes that are written of a text between two letters. -/
def midE (m : Int) (a : List UInt8) : List UInt8 := if m = 1 then a else flat ((chars a).flatMap (betw (tkm m)))
abbrev xs (a : List UInt8) : ByteArray := strB (120 :: (a ++ [120]))
theorem enc_mid (m : Int) (a : List UInt8) : encN m (xs a) = xs (midE m a) := by
  unfold encN midE
  by_cases h : m = 1
  · rw [if_pos h, if_pos h]
  · rw [if_neg h, if_neg h]
    show strB _ = strB _
    congr 1
    rw [tl_strB, chars_x]
    have hd : dotC (tkm m) (.g 120 :: (chars a ++ [.g 120])) = none := by
      unfold dotC
      split
      · rw [if_neg (by simp), if_neg (by simp), if_neg (by simp), if_neg (by simp)]
      · rfl
    have hl : leftC (tkm m) (.g 120 :: (chars a ++ [.g 120])) = ([], .g 120 :: (chars a ++ [.g 120])) := by
      have e : leftC (tkm m) (.g 120 :: (chars a ++ [.g 120])) = match signed (tkm m).l (.g 120) with
        | some t => (t, chars a ++ [.g 120])
        | none => ([], .g 120 :: (chars a ++ [.g 120])) := rfl
      rw [e, signed_x (by rfl)]
    have hr : rightC (tkm m) (.g 120 :: (chars a ++ [.g 120])) = (.g 120 :: (chars a ++ [.g 120]), []) := by
      rcases Pt.right_cases (tkm m) (.g 120 :: (chars a ++ [.g 120])) with ⟨M, c, t, e, h1, _⟩ | ⟨h1, _⟩
      · have e2 : (.g 120 :: chars a) ++ [.g 120] = M ++ [c] := e
        have e3 := (List.append_inj' e2 rfl).2
        cases e3
        rw [signed_x (by rfl)] at h1
        cases h1
      · exact h1
    unfold encC
    rw [hd, hl]
    dsimp only
    rw [hr]
    dsimp only
    rw [List.nil_append, List.append_nil, List.flatMap_cons, List.flatMap_append, List.flatMap_cons, List.flatMap_nil, List.append_nil, betw_x, Pt.flat_append, Pt.flat_append]
    have e : flat [.g 120] = [120] := by show Lib.encodeRune _ ++ [] = _; rw [rune_x]; rfl
    rw [e]
    rfl
/-- Two texts one behind the other, of which the one ends, the other begins, a character. -/
theorem mid_two (m : Int) {a b : List UInt8} (h : (chars (a ++ b)).length = (chars a).length + (chars b).length) : midE m (a ++ b) = midE m a ++ midE m b := by
  unfold midE
  by_cases h1 : m = 1
  · rw [if_pos h1, if_pos h1, if_pos h1]
  · rw [if_neg h1, if_neg h1, if_neg h1, (Pt.chars_count a.length a b (Nat.le_refl _)).2 h, List.flatMap_append, Pt.flat_append]
theorem xs_size (a : List UInt8) : (xs a).size = a.length + 2 := by
  show (strB _).size = _
  rw [Sy.size_strB]
  simp
theorem cut_last (a : List UInt8) : (xs a).extract 0 (a.length + 1) = strB (120 :: a) := by
  rw [Sy.extract_take, tl_strB]
  congr 1
  rw [List.take_succ_cons, List.take_left]
theorem cut_first (a : List UInt8) : (xs a).extract 1 (xs a).size = strB (a ++ [120]) := by
  rw [Sy.extract_drop, tl_strB]
  rfl
theorem mid_len (m : Int) (a : List UInt8) : (midE m a).length ≤ 20 * a.length := by
  unfold midE
  by_cases h1 : m = 1
  · rw [if_pos h1]; omega
  · rw [if_neg h1]
    have h2 := chars_len a
    have key : ∀ L : List Ch, (flat (L.flatMap (betw (tkm m)))).length ≤ 20 * L.length := by
      intro L
      induction L with
      | nil => exact Nat.le_refl _
      | cons c L ih =>
        have := betw_len (tkm m) c
        rw [List.flatMap_cons, Pt.flat_append, List.length_append, List.length_cons]
        omega
    have := key (chars a)
    omega
end Go.Proofs.YtonmnpmklkbioaaDoor.Given
