/- Plain facts on bytes, strings, UTF-8 and numbers, without the program: no conditions beyond those that each states. -/
import Derived.WalkKit
import Derived.Test.YtgbcmjbiddkldaaDoorWWords
namespace Go.Proofs.YtgbcmjbiddkldaaDoor.Pl
open Go.RowKit Go.Proofs.YtgbcmjbiddkldaaDoorW.PrintWords

theorem wrap64_id {x : Int} (h : -9223372036854775808 ≤ x) (h' : x ≤ 9223372036854775807) : wrap64 x = x := by
  unfold wrap64; omega

theorem tl_inj {a b : ByteArray} : a.toList = b.toList ↔ a = b := by
  rw [ByteArray.toList_eq, ByteArray.toList_eq]
  exact ⟨fun h => ByteArray.ext (Array.toList_inj.1 h), fun h => by rw [h]⟩
theorem tl_data (a : ByteArray) : a.toList = a.data.toList := ByteArray.toList_eq a
theorem tl_lit (a : ByteArray) (l : List UInt8) : a.toList = l ↔ a = ⟨l.toArray⟩ := by
  rw [tl_data]
  constructor
  · intro h; apply ByteArray.ext; rw [← h]
  · intro h; rw [h]
theorem size_nil {a : ByteArray} : a.size = 0 ↔ a = ⟨#[]⟩ := by
  constructor
  · intro h; apply ByteArray.ext; exact Array.eq_empty_of_size_eq_zero h
  · intro h; rw [h]; rfl
theorem tl_nil {a : ByteArray} : a.toList = ([] : List UInt8) ↔ a.size = 0 := by
  rw [tl_lit, size_nil]

theorem bt_nat (s : ByteArray) (i : Nat) (h : i < s.size) : bt s (i : Int) = (s[i].toNat : Int) := by
  unfold bt; simp [h]
theorem bt_get (s : ByteArray) (i : Nat) (h : i < s.size) : bt s (i : Int) = ((s.get! i).toNat : Int) := by
  rw [bt_nat s i h]
  have := get_at s i h
  rw [Nat.add_zero] at this
  rw [this]
theorem bt_out (s : ByteArray) (i : Int) (h : s.size ≤ i) : bt s i = 0 := by
  unfold bt; rw [dif_neg (by omega)]
theorem bt_lo (s : ByteArray) (i : Int) : 0 ≤ bt s i := (bt_range s i).1
theorem bt_hi (s : ByteArray) (i : Int) : bt s i ≤ 255 := (bt_range s i).2
theorem bt_ext {s t : ByteArray} (h : s.size = t.size) (hb : ∀ i : Nat, i < s.size → bt s i = bt t i) : s = t := by
  apply ByteArray.ext
  apply Array.ext h
  intro i h1 h2
  have := hb i h1
  rw [bt_nat s i h1, bt_nat t i h2] at this
  have h3 : s[i] = t[i] := UInt8.toNat_inj.1 (by omega)
  exact h3
theorem bt_extract (s : ByteArray) (a b i : Nat) (h : i < b - a) (hb : b ≤ s.size) : bt (s.extract a b) (i : Int) = bt s ((a + i : Nat) : Int) := by
  rw [bt_nat _ i (by rw [ByteArray.size_extract]; omega), bt_nat s (a + i) (by omega), ByteArray.getElem_extract]
theorem bt_append_left (s t : ByteArray) (i : Nat) (h : i < s.size) : bt (s ++ t) (i : Int) = bt s (i : Int) := by
  rw [bt_nat _ i (by rw [ByteArray.size_append]; omega), bt_nat s i h, ByteArray.getElem_append_left]
theorem bt_append_right (s t : ByteArray) (i : Nat) (h : i < t.size) : bt (s ++ t) ((s.size + i : Nat) : Int) = bt t (i : Int) := by
  rw [bt_nat _ _ (by rw [ByteArray.size_append]; omega), bt_nat t i h, ByteArray.getElem_append_right (by omega)]
  simp

theorem cut_left (a t : ByteArray) : (a ++ t).extract 0 a.size = a := by
  apply bt_ext
  · rw [ByteArray.size_extract, ByteArray.size_append]; omega
  · intro i h
    rw [ByteArray.size_extract, ByteArray.size_append] at h
    rw [bt_extract _ _ _ _ (by omega) (by rw [ByteArray.size_append]; omega), Nat.zero_add, bt_append_left _ _ _ (by omega)]
theorem cut_right (a t : ByteArray) : (a ++ t).extract a.size (a ++ t).size = t := by
  apply bt_ext
  · rw [ByteArray.size_extract, ByteArray.size_append]; omega
  · intro i h
    rw [ByteArray.size_extract, ByteArray.size_append] at h
    rw [bt_extract _ _ _ _ (by rw [ByteArray.size_append]; omega) (by omega), bt_append_right _ _ _ (by omega)]

theorem one_byte (s : ByteArray) (i : Nat) (h : i < s.size) (c : UInt8) : s.extract i (i + 1) = ⟨#[c]⟩ ↔ bt s i = (c.toNat : Int) := by
  have hz : (s.extract i (i + 1)).size = 1 := by rw [ByteArray.size_extract]; omega
  have hb : bt (s.extract i (i + 1)) ((0 : Nat) : Int) = bt s i := by
    rw [bt_extract _ _ _ _ (by omega) (by omega), Nat.add_zero]
  have hc : bt ⟨#[c]⟩ ((0 : Nat) : Int) = (c.toNat : Int) := bt_nat ⟨#[c]⟩ 0 (show 0 < 1 by omega)
  constructor
  · intro e; rw [← hb, e, hc]
  · intro e
    apply bt_ext
    · rw [hz]; rfl
    · intro j hj
      obtain rfl : j = 0 := by omega
      rw [hb, hc, e]

/-! UTF-8 -/
theorem width_pos (s : ByteArray) (pos : Nat) (h : pos < s.size) : 1 ≤ (Utf8.decode s pos).2 := by
  by_cases ha : (s[pos]'h).toNat < 128
  · rw [decode_ascii s pos h ha]
    exact Nat.le_refl _
  · exact (decode_high s pos h (by omega)).2
theorem decode_cont (s : ByteArray) (pos : Nat) (j : Nat) (h1 : pos < j) (h2 : j < pos + (Utf8.decode s pos).2) : j < s.size ∧ 128 ≤ (s.get! j).toNat := by
  obtain ⟨q, rfl⟩ : ∃ q, j = pos + q := ⟨j - pos, by omega⟩
  have hq : 1 ≤ q := by omega
  have h2' : q < (Utf8.decode s pos).2 := by omega
  clear h1 h2
  simp only [Utf8.decode] at h2'
  repeat' split at h2'
  all_goals (simp only [Bool.and_eq_true, decide_eq_true_eq, beq_iff_eq] at *)
  all_goals first
    | omega
    | (have hc : q = 1 ∨ q = 2 ∨ q = 3 := by omega
       rcases hc with rfl | rfl | rfl <;> (constructor <;> omega))
theorem decode_size (s : ByteArray) (pos : Nat) (h : pos < s.size) : pos + (Utf8.decode s pos).2 ≤ s.size := by
  have hw := width_pos s pos h
  by_cases h1 : (Utf8.decode s pos).2 = 1
  · omega
  · have := (decode_cont s pos (pos + (Utf8.decode s pos).2 - 1) (by omega) (by omega)).1
    omega
theorem decode_small (s : ByteArray) (pos : Nat) (h : pos < s.size) (c : Nat) (hc : c < 128) : (Utf8.decode s pos).1 = c ↔ bt s pos = (c : Int) := by
  rw [bt_nat s pos h]
  by_cases ha : (s[pos]'h).toNat < 128
  · rw [decode_ascii s pos h ha]; simp; omega
  · have := (decode_high s pos h (by omega)).1
    constructor
    · intro e; omega
    · intro e; omega
theorem decode_one (s : ByteArray) (pos : Nat) (h : pos < s.size) (ha : bt s pos < 128) : Utf8.decode s pos = ((bt s pos).toNat, 1) := by
  rw [bt_nat s pos h] at *
  rw [decode_ascii s pos h (by omega)]
  simp

/-- The first place of byte c among the n places from i on; else -1. -/
def firstB (s : ByteArray) (c : Int) : Nat → Nat → Int
  | 0, _ => -1
  | n + 1, i => if bt s i = c then (i : Int) else firstB s c n (i + 1)
theorem firstB_skip (s : ByteArray) (c : Int) : ∀ (m n i : Nat), (∀ j, i ≤ j → j < i + m → bt s j ≠ c) → firstB s c (m + n) i = firstB s c n (i + m)
  | 0, n, i, _ => by simp
  | m + 1, n, i, h => by
    rw [show m + 1 + n = (m + n) + 1 by omega, firstB, if_neg (h i (Nat.le_refl _) (by omega)), firstB_skip s c m n (i + 1) (fun j a b => h j (by omega) (by omega))]
    rw [show i + 1 + m = i + (m + 1) by omega]
theorem firstB_cases (s : ByteArray) (c : Int) : ∀ (n i : Nat), (firstB s c n i = -1 ∧ ∀ j, i ≤ j → j < i + n → bt s j ≠ c) ∨ ∃ q : Nat, firstB s c n i = q ∧ i ≤ q ∧ q < i + n ∧ bt s q = c ∧ ∀ j, i ≤ j → j < q → bt s j ≠ c
  | 0, i => .inl ⟨rfl, fun j a b => by omega⟩
  | n + 1, i => by
    unfold firstB
    by_cases h : bt s i = c
    · rw [if_pos h]; exact .inr ⟨i, rfl, Nat.le_refl _, by omega, h, fun j a b => by omega⟩
    · rw [if_neg h]
      rcases firstB_cases s c n (i + 1) with ⟨e, hn⟩ | ⟨q, e, a, b, hq, hn⟩
      · refine .inl ⟨e, fun j x y => ?_⟩
        by_cases hj : j = i
        · rw [hj]; exact h
        · exact hn j (by omega) (by omega)
      · refine .inr ⟨q, e, by omega, by omega, hq, fun j x y => ?_⟩
        by_cases hj : j = i
        · rw [hj]; exact h
        · exact hn j (by omega) (by omega)
theorem firstB_at (s : ByteArray) (c : Int) (n i q : Nat) (h1 : i ≤ q) (h2 : q < i + n) (h3 : bt s q = c) (h4 : ∀ j, i ≤ j → j < q → bt s j ≠ c) : firstB s c n i = q := by
  rcases firstB_cases s c n i with ⟨e, hn⟩ | ⟨p, e, a, b, hp, hn⟩
  · exact absurd h3 (hn q h1 h2)
  · rw [e]
    rcases Nat.lt_trichotomy p q with h | h | h
    · exact absurd hp (h4 p a h)
    · rw [h]
    · exact absurd h3 (hn q h1 h)
theorem firstB_none (s : ByteArray) (c : Int) (n i : Nat) (h4 : ∀ j, i ≤ j → j < i + n → bt s j ≠ c) : firstB s c n i = -1 := by
  rcases firstB_cases s c n i with ⟨e, hn⟩ | ⟨p, e, a, b, hp, hn⟩
  · exact e
  · exact absurd hp (h4 p a b)

/-- The last place of byte c among the first n places; else -1. -/
def lastB (s : ByteArray) (c : Int) : Nat → Int
  | 0 => -1
  | n + 1 => if bt s n = c then (n : Int) else lastB s c n
theorem lastB_cases (s : ByteArray) (c : Int) : ∀ n, (lastB s c n = -1 ∧ ∀ j : Nat, j < n → bt s j ≠ c) ∨ ∃ q : Nat, lastB s c n = q ∧ q < n ∧ bt s q = c ∧ ∀ j : Nat, q < j → j < n → bt s j ≠ c
  | 0 => .inl ⟨rfl, fun j h => by omega⟩
  | n + 1 => by
    unfold lastB
    by_cases h : bt s n = c
    · rw [if_pos h]; exact .inr ⟨n, rfl, by omega, h, fun j a b => by omega⟩
    · rw [if_neg h]
      rcases lastB_cases s c n with ⟨e, hn⟩ | ⟨q, e, a, hq, hn⟩
      · refine .inl ⟨e, fun j hj => ?_⟩
        by_cases hjn : j = n
        · rw [hjn]; exact h
        · exact hn j (by omega)
      · refine .inr ⟨q, e, by omega, hq, fun j x y => ?_⟩
        by_cases hjn : j = n
        · rw [hjn]; exact h
        · exact hn j x (by omega)

/-- The first place from pos on where the rune r stands, within f runes; else -1. -/
def idxRune (s : ByteArray) (r : Int) : Nat → Nat → Int
  | 0, _ => -1
  | f + 1, pos => if pos < s.size then (if ((Utf8.decode s pos).1 : Int) = r then (pos : Int) else idxRune s r f (pos + (Utf8.decode s pos).2)) else -1
theorem idxRune_firstB (s : ByteArray) (c : Nat) (hc : c < 128) : ∀ (f pos n : Nat), pos + n = s.size → n ≤ f → idxRune s c f pos = firstB s c n pos
  | 0, pos, n, h, hf => by
    obtain rfl : n = 0 := by omega
    rfl
  | f + 1, pos, n, h, hf => by
    unfold idxRune
    by_cases hp : pos < s.size
    · rw [if_pos hp]
      have hw := width_pos s pos hp
      have hz := decode_size s pos hp
      have hd := decode_small s pos hp c hc
      obtain ⟨n, rfl⟩ : ∃ m, n = m + 1 := ⟨n - 1, by omega⟩
      by_cases he : bt s pos = c
      · rw [if_pos (by rw [hd.2 he]), firstB, if_pos he]
      · rw [if_neg (by intro e; exact he (hd.1 (by omega)))]
        rw [idxRune_firstB s c hc f _ (n + 1 - (Utf8.decode s pos).2) (by omega) (by omega)]
        conv => rhs; rw [show n + 1 = (Utf8.decode s pos).2 + (n + 1 - (Utf8.decode s pos).2) by omega]
        rw [firstB_skip]
        intro j a b
        by_cases hj : j = pos
        · rw [hj]; exact he
        · have := decode_cont s pos j (by omega) b
          rw [bt_get s j this.1]
          omega
    · rw [if_neg hp]
      obtain rfl : n = 0 := by omega
      rfl
end Go.Proofs.YtgbcmjbiddkldaaDoor.Pl
