/- Plain facts on the laws on readers: what zzFits14, PartsIn and Whole answer. -/
import Derived.Test.YtgbcmjbiddkldaaDoorFi
namespace Go.Proofs.YtgbcmjbiddkldaaDoor.Given
open Go.RowKit Go.Proofs.YtgbcmjbiddkldaaDoorW.PrintWords Go.Proofs.YtgbcmjbiddkldaaDoor.PR Go.Proofs.YtgbcmjbiddkldaaDoor.Pl
set_option linter.unusedVariables false
set_option linter.unusedSimpArgs false

theorem rdL (l : List (List Int)) (i : Nat) (h : i < l.length) : rd_L1 l (i : Int) = l[i] := by simp [rd_L1, h]
theorem fits_loop (l : List (List Int)) (hl : l.length ≤ 2147483647) : ∀ (m i K : Nat), i + m = l.length → m < K → ∃ b, laws_zzFits14.l0 K l l.length i = some b ∧ (b = true → ∀ p ∈ l.drop i, p.length ≤ 2147483647)
  | 0, i, K, h, hK => by
    obtain ⟨K, rfl⟩ : ∃ q, K = q + 1 := ⟨K - 1, by omega⟩
    refine ⟨true, ?_, fun _ => by rw [List.drop_eq_nil_of_le (by omega)]; simp⟩
    simp only [laws_zzFits14.l0]
    rw [if_neg (by omega)]
  | m + 1, i, K, h, hK => by
    obtain ⟨K, rfl⟩ : ∃ q, K = q + 1 := ⟨K - 1, by omega⟩
    have hi : i < l.length := by omega
    have hw : wrap64 ((i : Int) + 1) = ((i + 1 : Nat) : Int) := by rw [wrap64_id (by omega) (by omega)]; omega
    obtain ⟨b, hb, hq⟩ := fits_loop l hl m (i + 1) K (by omega) (by omega)
    simp only [laws_zzFits14.l0]
    rw [if_pos (by omega), if_pos (by omega), if_pos (by omega), hw, hb, rdL l i hi]
    by_cases c : (l[i].length : Int) > 2147483647
    · rw [if_pos c]; exact ⟨false, rfl, fun h => by cases h⟩
    · rw [if_neg c]
      refine ⟨b, rfl, fun hbt p hp => ?_⟩
      rw [List.drop_eq_getElem_cons hi] at hp
      rcases List.mem_cons.1 hp with rfl | hp
      · omega
      · exact hq hbt p hp
theorem fits_some (l : List (List Int)) : ∃ b, laws_zzFits14.f (l.length + 1) l = some b ∧ (b = true → l.length ≤ 2147483647 ∧ ∀ p ∈ l, p.length ≤ 2147483647) := by
  unfold laws_zzFits14.f
  by_cases c : (l.length : Int) > 2147483647
  · rw [if_pos c]; exact ⟨false, rfl, fun h => by cases h⟩
  · rw [if_neg c]
    obtain ⟨b, h1, h2⟩ := fits_loop l (by omega) l.length 0 (l.length + 1) (by omega) (by omega)
    exact ⟨b, h1, fun hb => ⟨by omega, by simpa using h2 hb⟩⟩
theorem in_loop (l : List (List Int)) (hl : l.length ≤ 2147483647) (hp : ∀ p ∈ l, p.length ≤ 2147483647) : ∀ (m i K acc : Nat), i + m = l.length → m < K → acc ≤ i * 2147483647 → spec_PartsIn.l0 K l acc l l.length i = some (decide (l.length ≤ 30 ∧ acc + (l.drop i).flatten.length ≤ 4000))
  | 0, i, K, acc, h, hK, ha => by
    obtain ⟨K, rfl⟩ : ∃ q, K = q + 1 := ⟨K - 1, by omega⟩
    simp only [spec_PartsIn.l0]
    rw [if_neg (by omega), List.drop_eq_nil_of_le (by omega)]
    simp only [List.flatten_nil, List.length_nil, Nat.add_zero]
    by_cases c : (l.length : Int) ≤ 30
    · rw [if_pos c]
      congr 1
      rw [decide_eq_decide]
      omega
    · rw [if_neg c]
      congr 1
      symm
      rw [decide_eq_false_iff_not]
      omega
  | m + 1, i, K, acc, h, hK, ha => by
    obtain ⟨K, rfl⟩ : ∃ q, K = q + 1 := ⟨K - 1, by omega⟩
    have hi : i < l.length := by omega
    have hw : wrap64 ((i : Int) + 1) = ((i + 1 : Nat) : Int) := by rw [wrap64_id (by omega) (by omega)]; omega
    have hpi := hp _ (List.getElem_mem hi)
    have hmul : i * 2147483647 ≤ 2147483647 * 2147483647 := Nat.mul_le_mul_right _ (by omega)
    have hw2 : wrap64 ((acc : Int) + (l[i].length : Int)) = ((acc + l[i].length : Nat) : Int) := by rw [wrap64_id (by omega) (by omega)]; omega
    simp only [spec_PartsIn.l0]
    rw [if_pos (by omega), if_pos (by omega), if_pos (by omega), hw, rdL l i hi, hw2, in_loop l hl hp m (i + 1) K _ (by omega) (by omega) (by rw [Nat.add_mul]; omega), List.drop_eq_getElem_cons hi, List.flatten_cons, List.length_append, Nat.add_assoc]
theorem in_is (l : List (List Int)) (hl : l.length ≤ 2147483647) (hp : ∀ p ∈ l, p.length ≤ 2147483647) : spec_PartsIn.f (l.length + 1) l = some (decide (l.length ≤ 30 ∧ l.flatten.length ≤ 4000)) := by
  have := in_loop l hl hp l.length 0 (l.length + 1) 0 (by omega) (by omega) (by omega)
  simp only [List.drop_zero, Nat.zero_add] at this
  exact this
theorem whole_loop (l : List (List Int)) (hl : l.length ≤ 30) (hf : l.flatten.length ≤ 4000) : ∀ (m i K : Nat) (acc : List Int), i + m = l.length → m < K → acc.length + (l.drop i).flatten.length ≤ 4000 → spec_Whole.l0 K acc l l.length i = some (acc ++ (l.drop i).flatten)
  | 0, i, K, acc, h, hK, ha => by
    obtain ⟨K, rfl⟩ : ∃ q, K = q + 1 := ⟨K - 1, by omega⟩
    simp only [spec_Whole.l0]
    rw [if_neg (by omega), List.drop_eq_nil_of_le (by omega)]
    simp
  | m + 1, i, K, acc, h, hK, ha => by
    obtain ⟨K, rfl⟩ : ∃ q, K = q + 1 := ⟨K - 1, by omega⟩
    have hi : i < l.length := by omega
    have hw : wrap64 ((i : Int) + 1) = ((i + 1 : Nat) : Int) := by rw [wrap64_id (by omega) (by omega)]; omega
    rw [List.drop_eq_getElem_cons hi, List.flatten_cons, List.length_append] at ha
    simp only [spec_Whole.l0]
    rw [if_pos (by omega), if_pos (by omega), if_pos (by omega), rdL l i hi, if_pos (by omega), hw, whole_loop l hl hf m (i + 1) K _ (by omega) (by omega) (by rw [List.length_append]; omega), List.drop_eq_getElem_cons hi, List.flatten_cons, List.append_assoc]
theorem whole_is (l : List (List Int)) (hl : l.length ≤ 30) (hf : l.flatten.length ≤ 4000) : spec_Whole.f (l.length + 1) l = some l.flatten := by
  have := whole_loop l hl hf l.length 0 (l.length + 1) [] (by omega) (by omega) (by simpa using hf)
  simp only [List.drop_zero, List.nil_append] at this
  exact this
theorem part_le {l : List (List Int)} {K : Nat} (hf : l.flatten.length ≤ K) : ∀ p ∈ l, p.length ≤ K := by
  intro p hp
  refine Nat.le_trans ?_ hf
  induction l with
  | nil => simp at hp
  | cons q r ih =>
    rw [List.flatten_cons, List.length_append]
    rcases List.mem_cons.1 hp with rfl | hp
    · omega
    · have := ih (by rw [List.flatten_cons, List.length_append] at hf; omega) hp; omega
/-- A row of bytes of the call's own, as text, and cut. -/
theorem conv_row {w : World} {base : Nat} {ok : Nat → Prop} {v : Value} {xs : List Int} (h : Kd.R (Kd.int .u8) 5 w base ok v xs) : ∃ A c, v = .slice A xs.length c ∧ xs.length ≤ c ∧ ∀ (j : Nat) (x : Int), xs[j]? = some x → ∃ D, A = some ⟨D, 0, none⟩ ∧ base ≤ D ∧ w.cell? ⟨D, j, none⟩ = some (.int .u8 x) := by
  obtain ⟨A, c, e, hc, hC⟩ := Kd.R_reads h
  refine ⟨A, c, e, hc, fun j x hj => ?_⟩
  have hlt : j < xs.length := (List.getElem?_eq_some_iff.1 hj).1
  obtain ⟨_, inner, ho, _⟩ := h
  obtain ⟨g, c', cur, e', _, _, hb, _⟩ := row_cells ho (by omega)
  rw [e] at e'
  cases e'
  obtain ⟨ad, e2, h2⟩ := hC.2.2 (by omega)
  cases e2
  obtain ⟨cs, hl, hK, h3⟩ := h2 j x hj
  have hK' : cs = [.int .u8 x] := hK
  subst hK'
  have h4 := h3 0 _ rfl
  rw [add_at] at h4
  have e3 : 0 + (j * (Kd.int IntKind.u8).sz + 0) = j := by show 0 + (j * 1 + 0) = j; omega
  rw [e3] at h4
  exact ⟨g, rfl, hb, h4⟩
theorem conv_at {w : World} {A : Option Addr} {c : Nat} {xs : List Int} (hc : xs.length ≤ c) (h : ∀ (j : Nat) (x : Int), xs[j]? = some x → ∃ D, A = some ⟨D, 0, none⟩ ∧ w.cell? ⟨D, j, none⟩ = some (.int .u8 x)) : (convert 29 9 (.slice A xs.length c)).run Tryd.prog w = .ok (.string (strOfNums xs)) w := by
  by_cases hn : xs = []
  · subst hn
    cases A with
    | none => exact run_convert_bytes_nil w 29 5 Tryd.underlying29 Tryd.underlying5 0 c 9 Tryd.underlying9
    | some a => exact run_convert_bytes_back w 29 9 5 a c [] Tryd.underlying29 Tryd.underlying5 Tryd.underlying9 (by intro j hj; simp at hj)
  · have hpos : 0 < xs.length := List.length_pos_iff.2 hn
    obtain ⟨D, rfl, _⟩ := h 0 xs[0] (by simp)
    refine run_convert_bytes_arg w 29 5 Tryd.underlying29 Tryd.underlying5 D 0 xs.length c xs rfl (fun i hi => ?_) 9 Tryd.underlying9
    obtain ⟨D', e, h4⟩ := h i xs[i] (by simp)
    cases e
    rw [Nat.zero_add]
    simpa [List.getD_eq_getElem?_getD, hi] using h4
end Go.Proofs.YtgbcmjbiddkldaaDoor.Given
