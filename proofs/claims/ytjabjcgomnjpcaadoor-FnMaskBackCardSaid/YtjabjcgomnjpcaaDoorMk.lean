/- spec.MaskText says the same: plain. -/
import Derived.Test.YtjabjcgomnjpcaaDoorMh
import Derived.Test.YtjabjcgomnjpcaaDoorPMx42
namespace Go.Proofs.YtjabjcgomnjpcaaDoor.Given
open Go.RowKit Go.Proofs.YtjabjcgomnjpcaaDoorW.PrintWords Go.Proofs.YtjabjcgomnjpcaaDoorW.PrintLast Go.Proofs.YtjabjcgomnjpcaaDoorW.PrintMore Go.Proofs.YtjabjcgomnjpcaaDoor.PM
open Go.Proofs.YtjabjcgomnjpcaaDoor.Zp
set_option linter.unusedVariables false
set_option linter.unusedSimpArgs false

/-- A mask without its lowest bits. -/
def hi (m k : Nat) : Nat := (m >>> k) <<< k
theorem hi_bit (m k i : Nat) : (hi m k).testBit i = (decide (k ≤ i) && m.testBit i) := by
  unfold hi
  rw [Nat.testBit_shiftLeft]
  by_cases h : k ≤ i
  · simp [h, Nat.testBit_shiftRight]
  · simp [h]
theorem hi_lt {m : Nat} (k : Nat) (hm : m < 2 ^ 64) : hi m k < 2 ^ 64 := by
  refine Nat.lt_pow_two_of_testBit _ (fun i h => ?_)
  rw [hi_bit, Nat.testBit_lt_two_pow (Nat.lt_of_lt_of_le hm (Nat.pow_le_pow_right (by decide) h)), Bool.and_false]
theorem hi_zero (m : Nat) : hi m 0 = m := rfl
theorem hi_skip {m k : Nat} (h : m.testBit k = false) : hi m k = hi m (k + 1) := by
  apply Nat.eq_of_testBit_eq
  intro i
  rw [hi_bit, hi_bit]
  by_cases e : i = k
  · subst e; rw [h, Bool.and_false, Bool.and_false]
  · have : (k ≤ i) = (k + 1 ≤ i) := by simp; omega
    simp only [this]
theorem andnot64 (a b : Nat) (ha : a < 2 ^ 64) (hb : b < 2 ^ 64) : ∃ c : Nat, Go.bits .andNot .u64 (a : Int) (b : Int) = (c : Int) ∧ ∀ i, c.testBit i = (a.testBit i && !b.testBit i) := by
  refine ⟨(BitVec.ofInt 64 (a : Int) &&& ~~~ BitVec.ofInt 64 (b : Int)).toNat, ?_, ?_⟩
  · have hlt := (BitVec.ofInt 64 (a : Int) &&& ~~~ BitVec.ofInt 64 (b : Int)).isLt
    show (((BitVec.ofInt 64 (a : Int) &&& ~~~ BitVec.ofInt 64 (b : Int)).toNat : Nat) : Int) % 18446744073709551616 = _
    omega
  · intro i
    rw [BitVec.testBit_toNat, BitVec.getLsbD_and, BitVec.getLsbD_not, BitVec.ofInt_natCast, BitVec.ofInt_natCast, BitVec.getLsbD_ofNat, BitVec.getLsbD_ofNat]
    by_cases h : i < 64
    · simp [h]
    · have h1 : a.testBit i = false := Nat.testBit_lt_two_pow (Nat.lt_of_lt_of_le ha (Nat.pow_le_pow_right (by decide) (by omega)))
      simp [h, h1]
theorem hi_take {m k : Nat} (hm : m < 2 ^ 64) (hk : k < 64) (h : m.testBit k = true) : Go.bits .andNot .u64 ((hi m k : Nat) : Int) ((2 ^ k : Nat) : Int) = ((hi m (k + 1) : Nat) : Int) := by
  obtain ⟨c, h1, h2⟩ := andnot64 (hi m k) (2 ^ k) (hi_lt k hm) (Nat.pow_lt_pow_right (by decide) hk)
  rw [h1]
  congr 1
  apply Nat.eq_of_testBit_eq
  intro i
  rw [h2, hi_bit, hi_bit, Nat.testBit_two_pow]
  by_cases e : k = i
  · subst e
    have h3 : ¬ (k + 1 ≤ k) := by omega
    simp [h3]
  · have : (k ≤ i) = (k + 1 ≤ i) := by simp; omega
    simp only [this, decide_eq_false e, Bool.not_false, Bool.and_true]
theorem hi_and {m : Nat} (j k : Nat) (hm : m < 2 ^ 64) (hk : k < 64) : Go.bits .and .u64 ((hi m j : Nat) : Int) ((2 ^ k : Nat) : Int) = if j ≤ k ∧ m.testBit k = true then ((2 ^ k : Nat) : Int) else 0 := by
  rw [and64 _ _ (hi_lt j hm) (Nat.pow_lt_pow_right (by decide) hk), and_pow, hi_bit]
  by_cases h1 : j ≤ k
  · by_cases h2 : m.testBit k = true
    · rw [if_pos (by simp [h1, h2]), if_pos ⟨h1, h2⟩]
    · rw [if_neg (by simp [h2]), if_neg (fun h => h2 h.2)]; rfl
  · rw [if_neg (by simp [h1]), if_neg (fun h => h1 h.1)]; rfl
theorem nms_none {m : Nat} : ∀ (f k : Nat), hi m k = 0 → nmsF m f k = []
  | 0, _, _ => rfl
  | f + 1, k, h => by
    have hb : m.testBit k = false := by
      have := hi_bit m k k
      rw [h, Nat.zero_testBit] at this
      simpa using this.symm
    unfold nmsF
    rw [hb, if_neg (by decide)]
    exact nms_none f (k + 1) (by rw [← hi_skip hb]; exact h)
set_option maxRecDepth 100000 in
theorem hex_is : ∀ k : Fin 64, 29 ≤ k.val → spec_hexText.f 20 ((2 ^ k.val : Nat) : Int) = some (strB (bitNm k.val)) := by decide +kernel
theorem hex_more (k : Nat) (hk : k < 64) (h29 : 29 ≤ k) : ∀ n, spec_hexText.f (20 + n) ((2 ^ k : Nat) : Int) = some (strB (bitNm k))
  | 0 => hex_is ⟨k, hk⟩ h29
  | n + 1 => spec_hexText.mono _ _ _ (hex_more k hk h29 n)
/-- Names, each behind a comma. -/
def joinT (A : List (List UInt8)) : List UInt8 := (A.map (44 :: ·)).flatten
theorem joinT_app (A : List (List UInt8)) (y : List UInt8) : joinT (A ++ [y]) = joinT A ++ 44 :: y := by simp [joinT]
theorem joinT_cons (x : List UInt8) (A : List (List UInt8)) : joinT (x :: A) = 44 :: (x ++ joinT A) := by simp [joinT]
theorem joinT_join : ∀ (A : List (List UInt8)), A ≠ [] → joinT A = 44 :: Lib.join A [44]
  | [], h => absurd rfl h
  | [x], _ => by simp [joinT, Lib.join, List.intercalate]
  | x :: y :: A, _ => by
    rw [joinT_cons, joinT_join (y :: A) (by simp)]
    simp [Lib.join, List.intercalate]
theorem joinT_len : ∀ (A : List (List UInt8)), (∀ x ∈ A, x.length ≤ 100) → (joinT A).length ≤ 101 * A.length
  | [], _ => Nat.le_refl _
  | x :: A, h => by
    have h1 := h x (List.mem_cons_self ..)
    have h2 := joinT_len A (fun y hy => h y (List.mem_cons_of_mem _ hy))
    rw [joinT_cons, List.length_cons, List.length_append, List.length_cons]
    omega
def none4 : List UInt8 := [78, 111, 110, 101]
/-- A mask's text, as spec.MaskText builds it. -/
def specM (m : Nat) : List UInt8 := if nmsF m 64 0 = [] then none4 else Lib.join (nmsF m 64 0) [44]
theorem strB_app (a b : List UInt8) : strB a ++ strB b = strB (a ++ b) := by
  apply ByteArray.ext
  rw [ByteArray.data_append]
  show a.toArray ++ b.toArray = (a ++ b).toArray
  simp
theorem hi_end {m : Nat} (hm : m < 2 ^ 64) : hi m 64 = 0 := by
  apply Nat.eq_of_testBit_eq
  intro i
  rw [hi_bit, Nat.zero_testBit]
  by_cases h : 64 ≤ i
  · rw [Nat.testBit_lt_two_pow (Nat.lt_of_lt_of_le hm (Nat.pow_le_pow_right (by decide) h)), Bool.and_false]
  · rw [decide_eq_false h, Bool.false_and]
theorem sub_all {m : Nat} {A B : List (List UInt8)} (h : A ++ B = nmsF m 64 0) : A.length ≤ 64 ∧ ∀ x ∈ A, x.length ≤ 100 := by
  constructor
  · have h1 := nms_len m 64 0
    rw [← h, List.length_append] at h1
    omega
  · intro x hx
    exact nms_each m 64 0 x (by rw [← h]; exact List.mem_append_left _ hx)
theorem l1_is {m : Nat} (hm : m < 2 ^ 64) : ∀ (g k n j : Nat) (A : List (List UInt8)), k + g = 64 → g + 30 ≤ n → (j = k ∨ (j = 29 ∧ k < 29)) → 29 ≤ j → A ++ nmsF m (64 - j) j = nmsF m 64 0 → spec_MaskText.l1 n ((hi m j : Nat) : Int) (strB (joinT A)) (bitV k) = some (strB (specM m))
  | g, k, 0, j, A, h1, h2, h3, h5, h4 => by omega
  | g, k, n + 1, j, A, h1, h2, h3, h5, h4 => by
    obtain ⟨hA, hA2⟩ := sub_all h4
    have hlen := joinT_len A hA2
    unfold spec_MaskText.l1
    by_cases hz : hi m j = 0
    · rw [hz, if_pos (by rfl)]
      rw [nms_none _ _ hz, List.append_nil] at h4
      rw [tl_eq, tl_strB]
      unfold specM
      by_cases he : A = []
      · rw [he] at h4 ⊢
        rw [if_pos (show joinT [] = [] from rfl), ← h4, if_pos rfl]
        rfl
      · have hj := joinT_join A he
        rw [if_neg (by rw [hj]; simp), ← h4, if_neg he, if_pos (by rw [size_strB, hj, List.length_cons]; omega)]
        rw [extract_drop, tl_strB, hj]
        rfl
    · rw [if_neg (by omega)]
      have hk : k < 64 := by
        rcases Nat.lt_or_ge k 64 with h | h
        · exact h
        · exfalso
          have : k = 64 := by omega
          rcases h3 with e | ⟨_, e⟩
          · rw [e, this] at hz; exact hz (hi_end hm)
          · omega
      obtain ⟨g', rfl⟩ : ∃ g', g = g' + 1 := ⟨g - 1, by omega⟩
      have hbv : bitV k = ((2 ^ k : Nat) : Int) := by unfold bitV; rw [if_pos hk]
      have hnx := bitV_next k hk
      have hp0 : 0 < 2 ^ k := Nat.two_pow_pos k
      rw [hbv, hi_and j k hm hk, hnx]
      by_cases hc : j ≤ k ∧ m.testBit k = true
      · have hjk : j = k := by omega
        subst hjk
        rw [if_pos hc, if_neg (by omega)]
        have hx : spec_hexText.f n ((2 ^ j : Nat) : Int) = some (strB (bitNm j)) := by
          have := hex_more j hk h5 (n - 20)
          rw [show 20 + (n - 20) = n by omega] at this
          exact this
        have hbl := bitNm_len j
        have hst := nms_step m j hk
        rw [if_pos hc.2] at hst
        rw [hx, Option.bind_some, if_pos (by rw [size_strB]; omega)]
        have e1 : (⟨#[44]⟩ : ByteArray) ++ strB (bitNm j) = strB (44 :: bitNm j) := strB_app [44] (bitNm j)
        rw [e1, if_pos (by rw [size_strB, size_strB, List.length_cons]; omega), strB_app, ← joinT_app, hi_take hm hk hc.2]
        refine l1_is hm g' (j + 1) n (j + 1) (A ++ [bitNm j]) (by omega) (by omega) (.inl rfl) (by omega) ?_
        rw [← h4, hst, List.append_assoc]
      · rw [if_neg hc, if_pos rfl]
        rcases h3 with rfl | ⟨rfl, h6⟩
        · have hb : m.testBit j = false := by
            cases h : m.testBit j with
            | false => rfl
            | true => exact absurd ⟨Nat.le_refl _, h⟩ hc
          have hst := nms_step m j hk
          rw [hb, if_neg (by decide), List.nil_append] at hst
          rw [hi_skip hb]
          exact l1_is hm g' (j + 1) n (j + 1) A (by omega) (by omega) (.inl rfl) (by omega) (by rw [← hst]; exact h4)
        · exact l1_is hm g' (k + 1) n 29 A (by omega) (by omega) (by omega) (Nat.le_refl _) h4
def nl : List S36 := (spec_MaskNames.f).getD []
theorem nl_is : spec_MaskNames.f = some nl := rfl
theorem nl_len : nl.length = 29 := rfl
set_option maxRecDepth 100000 in
theorem nl_at : ∀ k : Fin 29, (rd_T36 nl (k.val : Int)).f0 = ((2 ^ k.val : Nat) : Int) ∧ (rd_T36 nl (k.val : Int)).f1 = strB (bitNm k.val) := by decide +kernel
theorem l0_is {m : Nat} (hm : m < 2 ^ 64) : ∀ (g i n : Nat) (A : List (List UInt8)), i + g = 29 → g + 120 ≤ n → A ++ nmsF m (64 - i) i = nmsF m 64 0 → spec_MaskText.l0 n ((hi m i : Nat) : Int) (strB (joinT A)) nl 29 (i : Int) = some (strB (specM m))
  | g, i, 0, A, h1, h2, h4 => by omega
  | g, i, n + 1, A, h1, h2, h4 => by
    obtain ⟨hA, hA2⟩ := sub_all h4
    have hlen := joinT_len A hA2
    have w1 : wrap64 ((i : Int) + 1) = ((i + 1 : Nat) : Int) := w64n (k := 1) (by omega)
    unfold spec_MaskText.l0
    by_cases hi29 : i < 29
    · obtain ⟨g', rfl⟩ : ∃ g', g = g' + 1 := ⟨g - 1, by omega⟩
      obtain ⟨e0, e1⟩ := nl_at ⟨i, hi29⟩
      dsimp only at e0 e1
      have hp0 : 0 < 2 ^ i := Nat.two_pow_pos i
      have hst := nms_step m i (by omega)
      have hbl := bitNm_len i
      have hand := hi_and i i hm (by omega)
      rw [if_pos (by omega), if_pos (by omega), if_pos (by rw [nl_len]; omega), e0, e1, w1]
      cases hb : m.testBit i with
      | true =>
        rw [hb, if_pos rfl] at hst
        rw [if_pos ⟨Nat.le_refl _, hb⟩] at hand
        rw [hand, if_neg (by omega), if_pos (by rw [size_strB]; omega)]
        have e2 : (⟨#[44]⟩ : ByteArray) ++ strB (bitNm i) = strB (44 :: bitNm i) := strB_app [44] (bitNm i)
        rw [e2, if_pos (by rw [size_strB, size_strB, List.length_cons]; omega), strB_app, ← joinT_app, hi_take hm (by omega) hb]
        refine l0_is hm g' (i + 1) n (A ++ [bitNm i]) (by omega) (by omega) ?_
        rw [← h4, hst, List.append_assoc]
      | false =>
        rw [hb, if_neg (by decide), List.nil_append] at hst
        rw [if_neg (fun h => by rw [hb] at h; cases h.2)] at hand
        rw [hand, if_pos rfl, hi_skip hb]
        exact l0_is hm g' (i + 1) n A (by omega) (by omega) (by rw [← hst]; exact h4)
    · have : i = 29 := by omega
      subst this
      rw [if_neg (by omega)]
      exact l1_is hm 64 0 n 29 A (by omega) (by omega) (.inr ⟨rfl, by omega⟩) (Nat.le_refl _) h4
theorem spec_is {m : Nat} (hm : m < 2 ^ 64) : spec_MaskText.f 200 (m : Int) = some (strB (specM m)) := by
  unfold spec_MaskText.f
  rw [nl_is, Option.bind_some, nl_len]
  exact l0_is hm 29 0 200 [] rfl (by omega) rfl
end Go.Proofs.YtjabjcgomnjpcaaDoor.Given
