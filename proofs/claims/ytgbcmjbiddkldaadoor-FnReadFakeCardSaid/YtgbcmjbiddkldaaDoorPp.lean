/- Plain facts for FnReadPlaces: what readIn answers of the kinds read and seek; and that a repeatable reader's reads are the whole's bytes from its place on. -/
import Derived.Test.YtgbcmjbiddkldaaDoorFp
namespace Go.Proofs.YtgbcmjbiddkldaaDoor.Given
open Go.RowKit Go.Proofs.YtgbcmjbiddkldaaDoorW.PrintWords Go.Proofs.YtgbcmjbiddkldaaDoor.PR Go.Proofs.YtgbcmjbiddkldaaDoor.Pl
set_option linter.unusedVariables false
set_option linter.unusedSimpArgs false

/-- Kept and left together are the whole; the place is of what is kept. -/
def InvR (whole : List Int) (st : RSt) : Prop := st.2.1 ++ st.1.flatten = whole ∧ st.2.2 ≤ st.2.1.length
theorem read_inv {whole : List Int} {st : RSt} (h : InvR whole st) (n : Nat) :
    InvR whole ((rrRead false n st.1 st.2.1 st.2.2).1, (rrRead false n st.1 st.2.1 st.2.2).2.1, st.2.2 + (rrRead false n st.1 st.2.1 st.2.2).2.2.1.length) ∧
    (rrRead false n st.1 st.2.1 st.2.2).2.2.1 = (whole.drop st.2.2).take (rrRead false n st.1 st.2.1 st.2.2).2.2.1.length ∧ st.2.2 + (rrRead false n st.1 st.2.1 st.2.2).2.2.1.length ≤ whole.length ∧
    (rrRead false n st.1 st.2.1 st.2.2).2.2.1.length ≤ n ∧ ((rrRead false n st.1 st.2.1 st.2.2).2.2.2 = 1 → st.2.2 + (rrRead false n st.1 st.2.1 st.2.2).2.2.1.length = whole.length) := by
  obtain ⟨ps, kept, i⟩ := st
  obtain ⟨h1, h2⟩ := h
  simp only at h1 h2 ⊢
  unfold rrRead
  by_cases hi : i = kept.length
  · subst hi
    simp only [if_true]
    have hc := rdP_cat false n ps
    have he := rdP_end false n ps
    obtain ⟨hs, _, _⟩ := rdP_sizes false n ps
    obtain ⟨z, hz⟩ : ∃ z, rdP false n ps = z := ⟨_, rfl⟩
    rw [hz] at hc he hs ⊢
    obtain ⟨data, code, ps'⟩ := z
    simp only at hc he hs ⊢
    have hw : whole = kept ++ (data ++ ps'.flatten) := by rw [hc, h1]
    refine ⟨⟨by simp only; rw [hw, List.append_assoc], by simp⟩, ?_, ?_, hs, fun hcode => ?_⟩
    · rw [hw, List.drop_left, List.take_left]
    · rw [hw]; simp
    · rcases he with ⟨h0, _⟩ | ⟨_, e2, e3, _⟩
      · rw [h0] at hcode; cases hcode
      · rw [hw, e2, e3]; simp
  · simp only [if_neg hi]
    have hlen : ((kept.drop i).take n).length ≤ kept.length - i := by simp; omega
    have hpre : whole.drop i = kept.drop i ++ ps.flatten := by rw [← h1, List.drop_append_of_le_length (by omega)]
    refine ⟨⟨h1, by simp only; omega⟩, ?_, ?_, by simp; omega, fun h => by cases h⟩
    · rw [hpre, List.take_append_of_le_length (by simp; omega)]
      apply List.ext_getElem?
      intro j
      simp only [List.getElem?_take, List.length_take, List.length_drop]
      by_cases hj : j < n
      · by_cases hj2 : j < kept.length - i
        · rw [if_pos hj, if_pos (by omega)]
        · rw [if_pos hj, if_neg (by omega), List.getElem?_eq_none (by simp; omega)]
      · rw [if_neg hj, if_neg (by omega)]
    · rw [← h1, List.length_append]; omega
theorem seek_inv {whole : List Int} {st : RSt} (h : InvR whole st) (off wh : Int) :
    InvR whole (st.1, st.2.1, (rrSeek st.2.1.length st.2.2 off wh).2.2) ∧ ((rrSeek st.2.1.length st.2.2 off wh).2.1 = 0 → (rrSeek st.2.1.length st.2.2 off wh).1 = ((rrSeek st.2.1.length st.2.2 off wh).2.2 : Int)) ∧ ((rrSeek st.2.1.length st.2.2 off wh).2.1 ≠ 0 → (rrSeek st.2.1.length st.2.2 off wh).2.2 = st.2.2) := by
  obtain ⟨ps, kept, i⟩ := st
  obtain ⟨h1, h2⟩ := h
  simp only at h1 h2 ⊢
  unfold rrSeek
  split
  · exact ⟨⟨h1, h2⟩, fun h => by simp at h, fun _ => rfl⟩
  · split
    · exact ⟨⟨h1, h2⟩, fun h => by simp at h, fun _ => rfl⟩
    · exact ⟨⟨h1, by simp only; omega⟩, fun _ => by simp only; omega, fun h => absurd rfl h⟩

theorem rin_loop (l : List S32) (hl : l.length ≤ 9223372036854775807) : ∀ (m i K : Nat), i + m = l.length → 4 * m < K → ∃ b, laws_readIn.l0 K l [0, 1] l l.length i = some b ∧ (b = true → l.length ≤ 60 ∧ ∀ s ∈ l.drop i, okR s)
  | 0, i, K, h, hK => by
    obtain ⟨K, rfl⟩ : ∃ q, K = q + 1 := ⟨K - 1, by omega⟩
    refine ⟨decide ((l.length : Int) ≤ 60), ?_, fun hb => ⟨by have := of_decide_eq_true hb; omega, by rw [List.drop_eq_nil_of_le (by omega)]; simp⟩⟩
    simp only [laws_readIn.l0]
    rw [if_neg (by omega)]
  | m + 1, i, K, h, hK => by
    obtain ⟨K, rfl⟩ : ∃ q, K = q + 4 := ⟨K - 4, by omega⟩
    have hi : i < l.length := by omega
    have hw : wrap64 ((i : Int) + 1) = ((i + 1 : Nat) : Int) := by rw [wrap64_id (by omega) (by omega)]; omega
    have hr : rd_T32 l (i : Int) = l[i] := by simp [rd_T32, hi]
    obtain ⟨b, hb, hq⟩ := rin_loop l hl m (i + 1) K (by omega) (by omega)
    have hb2 : laws_readIn.l0 K l [0, 1] l (l.length : Int) ((i : Int) + 1) = some b := by rw [show (i : Int) + 1 = ((i + 1 : Nat) : Int) by omega]; exact hb
    have w1 : wrap64 ((0 : Int) + 1) = 1 := by rw [wrap64_id (by omega) (by omega)]; rfl
    have w2 : wrap64 ((1 : Int) + 1) = 2 := by rw [wrap64_id (by omega) (by omega)]; rfl
    have w3 : wrap64 1 = 1 := by rw [wrap64_id (by omega) (by omega)]
    have w4 : wrap64 2 = 2 := by rw [wrap64_id (by omega) (by omega)]
    have r0 : rd [0, 1] (0 : Int) = 0 := rfl
    have r1 : rd [0, 1] (1 : Int) = 1 := rfl
    rw [List.drop_eq_getElem_cons hi]
    obtain ⟨s, hs⟩ : ∃ s, l[i] = s := ⟨_, rfl⟩
    rw [hs] at hr ⊢
    obtain ⟨d, n, wh⟩ := s
    have hcons : (okR ⟨d, n, wh⟩ → b = true → l.length ≤ 60 ∧ ∀ s ∈ (⟨d, n, wh⟩ : S32) :: l.drop (i + 1), okR s) := fun h1 h2 => ⟨(hq h2).1, fun s hs => by
      rcases List.mem_cons.1 hs with rfl | hs
      · exact h1
      · exact (hq h2).2 s hs⟩
    have no : ∀ P : Prop, (false = true → P) := fun P h => by cases h
    rw [show K + 4 = (K + 3) + 1 from rfl]
    simp only [laws_readIn.l0]
    rw [if_pos (by omega), if_pos (by omega), if_pos (by omega), hr]
    simp only [laws_readIn.l1, List.length_cons, List.length_nil]
    by_cases d0 : d = 0
    · subst d0
      by_cases c1 : n < 1
      · exact ⟨false, by simp [w1, w2, w3, w4, r0, r1, c1], no _⟩
      by_cases c2 : 5000 < n
      · exact ⟨false, by simp [w1, w2, w3, w4, r0, r1, c1, c2], no _⟩
      exact ⟨b, by simp [w1, w2, w3, w4, r0, r1, c1, c2, hw, hb2], hcons (.inl ⟨rfl, by simp only; omega, by simp only; omega⟩)⟩
    · by_cases d1 : d = 1
      · subst d1
        by_cases c1 : n < -1099511627776
        · exact ⟨false, by simp [w1, w2, w3, w4, r0, r1, c1], no _⟩
        by_cases c2 : 1099511627776 < n
        · exact ⟨false, by simp [w1, w2, w3, w4, r0, r1, c1, c2], no _⟩
        by_cases c3 : wh < 0
        · exact ⟨false, by simp [w1, w2, w3, w4, r0, r1, c1, c2, c3], no _⟩
        by_cases c4 : 2 < wh
        · exact ⟨false, by simp [w1, w2, w3, w4, r0, r1, c1, c2, c3, c4], no _⟩
        exact ⟨b, by simp [w1, w2, w3, w4, r0, r1, c1, c2, c3, c4, hw, hb2], hcons (.inr ⟨rfl, by simp only; omega, by simp only; omega, by simp only; omega, by simp only; omega⟩)⟩
      · exact ⟨false, by simp [w1, w2, w3, w4, r0, r1, d0, d1], no _⟩
theorem rin_some (l : List S32) (hl : l.length ≤ 9223372036854775807) : ∃ b, laws_readIn.f (4 * l.length + 1) l [0, 1] = some b ∧ (b = true → l.length ≤ 60 ∧ ∀ s ∈ l, okR s) := by
  obtain ⟨b, h1, h2⟩ := rin_loop l hl l.length 0 (4 * l.length + 1) (by omega) (by omega)
  exact ⟨b, h1, by simpa using h2⟩
end Go.Proofs.YtgbcmjbiddkldaaDoor.Given
