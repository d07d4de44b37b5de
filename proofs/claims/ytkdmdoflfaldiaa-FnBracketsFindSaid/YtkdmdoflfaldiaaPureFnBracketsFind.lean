/- FnBracketsFind: what is found reaches from the first opening brace to the last closing one behind it; no conditions. -/
import Derived.Test.YtkdmdoflfaldiaaPSx2
import Derived.Test.YtkdmdoflfaldiaaPl
namespace Go.Proofs.Ytkdmdoflfaldiaa.Pure
open Go.RowKit Go.Proofs.Ytkdmdoflfaldiaa.PS Go.Proofs.YtkdmdoflfaldiaaW.PrintWords Go.Proofs.YtkdmdoflfaldiaaW.PrintLast Go.Proofs.Ytkdmdoflfaldiaa.Pl

theorem last_byte2 (s : ByteArray) (c : Int) (hs : s.size ≤ 140737488351232) : ∀ (n k : Nat), n ≤ s.size → n < k → bytealg_LastIndexByteString.l0 k s c ((n : Int) - 1) = some (lastB s c n)
  | 0, k, h, hk => by
    obtain ⟨k, rfl⟩ : ∃ m, k = m + 1 := ⟨k - 1, by omega⟩
    simp only [bytealg_LastIndexByteString.l0]
    rw [if_neg (by omega)]; rfl
  | n + 1, k, h, hk => by
    obtain ⟨k, rfl⟩ : ∃ m, k = m + 1 := ⟨k - 1, by omega⟩
    have e : (((n + 1 : Nat) : Int) - 1) = (n : Int) := by omega
    simp only [bytealg_LastIndexByteString.l0, lastB]
    rw [e, if_pos (by omega), if_pos (by omega), if_pos (by omega)]
    by_cases hb : bt s n = c
    · rw [if_pos hb, if_pos hb]
    · rw [if_neg hb, if_neg hb, wrap64_id (by omega) (by omega)]
      exact last_byte2 s c hs n k (by omega) (by omega)

theorem first_sub (s : ByteArray) (hs : s.size ≤ 140737488351232) : ∀ (n k i : Nat), i + n = s.size → n < k → transform_zzIndex.l0 k s ⟨#[123]⟩ i = some (firstB s 123 n i)
  | 0, k, i, h, hk => by
    obtain ⟨k, rfl⟩ : ∃ m, k = m + 1 := ⟨k - 1, by omega⟩
    simp only [transform_zzIndex.l0, show (⟨#[123]⟩ : ByteArray).size = 1 from rfl]
    rw [wrap64_id (by omega) (by omega), if_neg (by omega)]; rfl
  | n + 1, k, i, h, hk => by
    obtain ⟨k, rfl⟩ : ∃ m, k = m + 1 := ⟨k - 1, by omega⟩
    simp only [transform_zzIndex.l0, firstB, show (⟨#[123]⟩ : ByteArray).size = 1 from rfl]
    rw [show wrap64 ((i : Int) + ((1 : Nat) : Int)) = ((i + 1 : Nat) : Int) by rw [wrap64_id (by omega) (by omega)]; omega]
    rw [if_pos (by omega), if_pos (by omega), if_pos (by omega), Int.toNat_natCast, Int.toNat_natCast]
    have h1 := one_byte s i (by omega) 123
    have e : wrap64 ((i : Int) + 1) = ((i + 1 : Nat) : Int) := by rw [wrap64_id (by omega) (by omega)]; omega
    rw [e]
    by_cases hb : bt s i = 123
    · rw [if_pos (tl_inj.2 (h1.2 hb)), if_pos hb]
    · rw [if_neg (fun h => hb (h1.1 (tl_inj.1 h))), if_neg hb]
      exact first_sub s hs n k (i + 1) (by omega) (by omega)

/-- What the reference has found after the first i places. -/
def have1 (s : ByteArray) (i : Nat) : Bool := decide (0 ≤ firstB s 123 i 0 ∧ firstB s 123 i 0 < lastB s 125 i)
def part1 (s : ByteArray) (i : Nat) : ByteArray := if have1 s i then s.extract (firstB s 123 i 0).toNat (lastB s 125 i + 1).toNat else ⟨#[]⟩

theorem firstB_snoc (s : ByteArray) (c : Int) (i : Nat) : firstB s c (i + 1) 0 = if 0 ≤ firstB s c i 0 then firstB s c i 0 else if bt s i = c then (i : Int) else -1 := by
  rcases firstB_cases s c i 0 with ⟨e, hn⟩ | ⟨q, e, a, b, hq, hn⟩
  · rw [e, if_neg (by omega)]
    by_cases hb : bt s i = c
    · rw [if_pos hb]
      exact firstB_at s c (i + 1) 0 i (by omega) (by omega) hb (fun j x y => hn j x (by omega))
    · rw [if_neg hb]
      refine firstB_none s c _ _ (fun j x y => ?_)
      by_cases hj : j = i
      · rw [hj]; exact hb
      · exact hn j x (by omega)
  · rw [e, if_pos (by omega)]
    exact firstB_at s c (i + 1) 0 q (by omega) (by omega) hq hn

theorem lastB_lt (s : ByteArray) (c : Int) (n : Nat) : lastB s c n < n := by
  rcases lastB_cases s c n with ⟨e, hn⟩ | ⟨q, e, a, hq, hn⟩ <;> omega
theorem firstB_lt (s : ByteArray) (c : Int) (n : Nat) : firstB s c n 0 < n ∧ -1 ≤ firstB s c n 0 := by
  rcases firstB_cases s c n 0 with ⟨e, hn⟩ | ⟨q, e, a, b, hq, hn⟩ <;> omega
theorem firstB_byte (s : ByteArray) (c : Int) (n : Nat) (h : 0 ≤ firstB s c n 0) : bt s (firstB s c n 0) = c := by
  rcases firstB_cases s c n 0 with ⟨e, hn⟩ | ⟨q, e, a, b, hq, hn⟩
  · omega
  · rw [e]; exact hq

theorem spec_is (s : ByteArray) (hs : s.size ≤ 140737488351232) : ∀ (n k i : Nat), i + n = s.size → 2 * n < k → spec_Brackets.l0 k s (have1 s i) (part1 s i) (firstB s 123 i 0) i = some (have1 s s.size, part1 s s.size)
  | 0, k, i, h, hk => by
    obtain ⟨k, rfl⟩ : ∃ m, k = m + 1 := ⟨k - 1, by omega⟩
    simp only [spec_Brackets.l0]
    rw [if_neg (by omega)]
    obtain rfl : i = s.size := by omega
    rfl
  | n + 1, k, i, h, hk => by
    obtain ⟨k, rfl⟩ : ∃ m, k = m + 2 := ⟨k - 2, by omega⟩
    have ih := spec_is s hs n k (i + 1) (by omega) (by omega)
    have w1 : wrap64 ((i : Int) + 1) = ((i + 1 : Nat) : Int) := by rw [wrap64_id (by omega) (by omega)]; omega
    have hf := firstB_lt s 123 i
    have hl := lastB_lt s 125 i
    have hfs := firstB_snoc s 123 i
    simp only [spec_Brackets.l0, spec_Brackets.j1, w1]
    rw [if_pos (by omega), if_pos (by omega)]
    have e1 : ((i + 1 : Nat) : Int).toNat = i + 1 := by omega
    by_cases hb : bt s i = 123
    · rw [if_pos hb]
      have hb2 : ¬ bt s i = 125 := by omega
      have hl2 : lastB s 125 (i + 1) = lastB s 125 i := by simp only [lastB]; rw [if_neg hb2]
      by_cases h0 : firstB s 123 i 0 < 0
      · rw [if_pos (by simpa using h0), if_pos (by omega), if_pos (by omega), if_neg hb2]
        have e : firstB s 123 (i + 1) 0 = i := by rw [hfs, if_neg (by omega), if_pos hb]
        have g1 : have1 s (i + 1) = have1 s i := by
          unfold have1; rw [e, hl2]
          rw [decide_eq_false (by omega), decide_eq_false (by omega)]
        have g0 : have1 s i = false := by unfold have1; rw [decide_eq_false (by omega)]
        have g2 : part1 s (i + 1) = part1 s i := by unfold part1; rw [g1, g0]; rfl
        rw [e, g1, g2] at ih
        exact ih
      · rw [if_neg (by simpa using h0), if_pos (by omega), if_pos (by omega), if_neg hb2]
        have e : firstB s 123 (i + 1) 0 = firstB s 123 i 0 := by rw [hfs, if_pos (by omega)]
        have g1 : have1 s (i + 1) = have1 s i := by unfold have1; rw [e, hl2]
        have g2 : part1 s (i + 1) = part1 s i := by unfold part1; rw [g1, e, hl2]
        rw [e, g1, g2] at ih
        exact ih
    · rw [if_neg hb, if_neg (by decide), if_pos (by omega), if_pos (by omega)]
      have e : firstB s 123 (i + 1) 0 = firstB s 123 i 0 := by
        rw [hfs]
        by_cases h0 : 0 ≤ firstB s 123 i 0
        · rw [if_pos h0]
        · rw [if_neg h0, if_neg hb]; omega
      by_cases hb2 : bt s i = 125
      · have hl2 : lastB s 125 (i + 1) = i := by simp only [lastB]; rw [if_pos hb2]
        rw [if_pos hb2]
        by_cases h0 : 0 ≤ firstB s 123 i 0
        · rw [if_pos h0, if_pos h0, if_pos (by omega), if_pos (by omega)]
          have g1 : have1 s (i + 1) = true := by unfold have1; rw [e, hl2, decide_eq_true ⟨h0, hf.1⟩]
          have g2 : part1 s (i + 1) = s.extract (firstB s 123 i 0).toNat (i + 1) := by unfold part1; rw [g1, if_pos rfl, e, hl2]; congr 1
          rw [e, g1, g2] at ih
          rw [e1]
          exact ih
        · rw [if_neg h0]
          have g1 : have1 s (i + 1) = false := by unfold have1; rw [e, decide_eq_false (by omega)]
          have g0 : have1 s i = false := by unfold have1; rw [decide_eq_false (by omega)]
          have g2 : part1 s (i + 1) = part1 s i := by unfold part1; rw [g1, g0]; rfl
          rw [e, g1, g2] at ih
          rw [g0]
          exact ih
      · have hl2 : lastB s 125 (i + 1) = lastB s 125 i := by simp only [lastB]; rw [if_neg hb2]
        rw [if_neg hb2]
        have g1 : have1 s (i + 1) = have1 s i := by unfold have1; rw [e, hl2]
        have g2 : part1 s (i + 1) = part1 s i := by unfold part1; rw [g1, e, hl2]
        rw [e, g1, g2] at ih
        exact ih

theorem find_is (s : ByteArray) (hs : s.size ≤ 140737488351232) (k : Nat) (hk : s.size < k) : impl_BracketsFind.f k s = some (have1 s s.size, part1 s s.size) := by
  unfold impl_BracketsFind.f transform_ParseGlobs.f strings_LastIndex.f bytealg_LastIndexByteString.f transform_zzIndex.f
  have h0 : transform_zzIndex.l0 k s ⟨#[123]⟩ 0 = _ := first_sub s hs s.size k 0 (by omega) hk
  have h1 : (⟨#[125]⟩ : ByteArray).size = 1 := rfl
  have hf := firstB_lt s 123 s.size
  have hl := lastB_lt s 125 s.size
  rw [h0, h1, if_neg (by decide), if_pos (by decide), if_pos (by decide), wrap64_id (x := (s.size : Int) - 1) (by omega) (by omega), show bt ⟨#[125]⟩ 0 = 125 from rfl, last_byte2 s 125 hs s.size k (by omega) hk]
  simp only [Option.bind_some]
  have hl0 : -1 ≤ lastB s 125 s.size := by rcases lastB_cases s 125 s.size with ⟨e, hn⟩ | ⟨q, e, a, hq, hn⟩ <;> omega
  rw [wrap64_id (by omega) (by omega)]
  unfold part1
  by_cases c1 : 0 ≤ firstB s 123 s.size 0
  · rw [if_pos (by omega)]
    by_cases c2 : firstB s 123 s.size 0 < lastB s 125 s.size
    · have g : have1 s s.size = true := by unfold have1; rw [decide_eq_true ⟨c1, c2⟩]
      rw [if_pos (by omega), if_pos c1, if_pos (by omega), if_pos (by omega), g, if_pos rfl]; rfl
    · have g : have1 s s.size = false := by unfold have1; rw [decide_eq_false (by omega)]
      rw [if_neg (by omega), g]; rfl
  · have g : have1 s s.size = false := by unfold have1; rw [decide_eq_false (by omega)]
    rw [if_neg (by omega), g]; rfl

theorem FnBracketsFind : laws_FnBracketsFind.Pure := by
  intro s hs
  refine ⟨2 * s.size + 10, ?_⟩
  unfold laws_FnBracketsFind.f
  by_cases h1 : (s.size : Int) > 2147483647
  · rw [if_pos h1]
  rw [if_neg h1]
  by_cases h2 : (s.size : Int) > 5000
  · rw [if_pos h2]
  have hx : (⟨#[97, 123, 98, 125, 123, 99, 125, 100]⟩ : ByteArray).size = 8 := rfl
  rw [if_neg h2, find_is s hs _ (by omega), find_is _ (by decide) _ (by rw [hx]; omega)]
  unfold spec_Brackets.f
  have e : spec_Brackets.l0 (2 * s.size + 10) s false ⟨#[]⟩ (-1) 0 = _ := spec_is s hs s.size (2 * s.size + 10) 0 (by omega) (by omega)
  rw [e]
  simp only [Option.bind_some]
  rw [if_pos (by simp), if_pos trivial, if_pos (by decide +kernel)]
  decide +kernel
end Go.Proofs.Ytkdmdoflfaldiaa.Pure
