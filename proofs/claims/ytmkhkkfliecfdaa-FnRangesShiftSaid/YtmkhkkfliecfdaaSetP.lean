/- Plain facts on a set into which ranges were inserted one by one. No program, no conditions beyond those that each states. -/
import Derived.Test.YtmkhkkfliecfdaaParts
namespace Go.Proofs.Ytmkhkkfliecfdaa.Given
set_option linter.unusedVariables false
set_option linter.unusedSimpArgs false

theorem absorb_good : ∀ (B : List (Int × Int)) (x : Int × Int), Good x → (∀ b ∈ B, Good b) → (∀ y ∈ absorb x B, Good y) ∧ (absorb x B).length ≤ B.length + 1
  | [], x, hx, _ => ⟨fun y hy => by simp [absorb] at hy; rw [hy]; exact hx, by simp [absorb]⟩
  | b :: B, x, hx, hB => by
    have hb := hB b (by simp)
    have hB' : ∀ b ∈ B, Good b := fun c hc => hB c (by simp [hc])
    unfold absorb
    split
    · obtain ⟨i1, i2⟩ := absorb_good B (merged x b) (hx.merged hb) hB'
      exact ⟨i1, by simp only [List.length_cons]; omega⟩
    · refine ⟨fun y hy => ?_, by simp⟩
      rcases List.mem_cons.1 hy with rfl | hy
      · exact hx
      · exact hB y hy
theorem coal_more (A B : List (Int × Int)) (x : Int × Int) (hx : Good x) (hA : ∀ a ∈ A, Good a) (hB : ∀ b ∈ B, Good b) :
    (∀ y ∈ coalP (A ++ x :: B) A.length, Good y) ∧ (coalP (A ++ x :: B) A.length).length ≤ A.length + B.length + 1 := by
  rcases List.eq_nil_or_concat A with rfl | ⟨A0, a, rfl⟩
  · simp only [List.nil_append, List.length_nil, coalP_first, Nat.zero_add]
    exact absorb_good B x hx hB
  · simp only [List.concat_eq_append] at *
    have e : (A0 ++ [a]).length = A0.length + 1 := by simp
    have ha := hA a (by simp)
    have hA0 : ∀ c ∈ A0, Good c := fun c hc => hA c (by simp [hc])
    rw [e, coalP_mid]
    split
    · obtain ⟨i1, i2⟩ := absorb_good B (merged a x) (ha.merged hx) hB
      refine ⟨fun y hy => ?_, by simp only [List.length_append]; omega⟩
      rcases List.mem_append.1 hy with h | h
      · exact hA0 y h
      · exact i1 y h
    · obtain ⟨i1, i2⟩ := absorb_good B x hx hB
      refine ⟨fun y hy => ?_, by simp only [List.length_append, List.length_cons]; omega⟩
      rcases List.mem_append.1 hy with h | h
      · exact hA0 y h
      · rcases List.mem_cons.1 h with rfl | h
        · exact ha
        · exact i1 y h
/-- A range that may be inserted. -/
def okIn (r : Int × Int) : Prop := r.2 ≤ 0 ∨ Good r
theorem insP_more (L : List (Int × Int)) (r : Int × Int) (hr : okIn r) (hL : ∀ x ∈ L, Good x) : (∀ y ∈ insP L r, Good y) ∧ (insP L r).length ≤ L.length + 1 := by
  unfold insP
  by_cases h0 : r.2 ≤ 0
  · rw [if_pos h0]; exact ⟨hL, by omega⟩
  · rw [if_neg h0]
    have hg : Good r := hr.resolve_left h0
    by_cases hn : L.length = 0
    · rw [if_pos hn]
      exact ⟨fun y hy => by simp at hy; rw [hy]; exact hg, by simp⟩
    · rw [if_neg hn]
      obtain ⟨A, B, rfl, hs, hlt, hge⟩ := srch_split L r.1
      rw [hs]
      have hA : ∀ a ∈ A, Good a := fun a ha => hL a (by simp [ha])
      have hB : ∀ b ∈ B, Good b := fun b hb => hL b (by simp [hb])
      split
      · simp only [List.take_left', List.drop_left']
        obtain ⟨i1, i2⟩ := coal_more A B r hg hA hB
        exact ⟨i1, by simp only [List.length_append]; omega⟩
      · rename_i hc
        cases B with
        | nil => exact (hc (.inl (by simp))).elim
        | cons b bs =>
          have e1 : at_ (A ++ b :: bs) A.length = b := at_mid A b bs
          have e2 : (A ++ b :: bs).set A.length (merged r b) = A ++ merged r b :: bs := by simp
          rw [e1, e2]
          obtain ⟨i1, i2⟩ := coal_more A bs (merged r b) (hg.merged (hB b (by simp))) hA (fun c hc => hB c (by simp [hc]))
          exact ⟨i1, by simp only [List.length_append, List.length_cons]; omega⟩
def setP (l : List (Int × Int)) : List (Int × Int) := l.foldl insP []
theorem setP_snoc (l : List (Int × Int)) (r : Int × Int) : setP (l ++ [r]) = insP (setP l) r := by simp [setP]
theorem setP_take (l : List (Int × Int)) (k : Nat) (h : k < l.length) : setP (l.take (k + 1)) = insP (setP (l.take k)) l[k] := by
  rw [List.take_succ_eq_append_getElem h, setP_snoc]
theorem fold_law : ∀ (l L : List (Int × Int)), (∀ r ∈ l, okIn r) → Abv (-4398046511105) L → (∀ x ∈ L, Good x) →
    Abv (-4398046511105) (l.foldl insP L) ∧ (∀ z, Has (l.foldl insP L) z ↔ Has L z ∨ ∃ r ∈ l, In r z) ∧ (∀ x ∈ l.foldl insP L, Good x) ∧ (l.foldl insP L).length ≤ L.length + l.length
  | [], L, _, h1, h2 => ⟨h1, fun z => by simp, h2, by simp⟩
  | r :: l, L, hl, h1, h2 => by
    have hr := hl r (by simp)
    obtain ⟨g1, g2⟩ := insP_more L r hr h2
    have hI : Abv (-4398046511105) (insP L r) ∧ ∀ z, Has (insP L r) z ↔ Has L z ∨ In r z := by
      by_cases h0 : r.2 ≤ 0
      · have e : insP L r = L := by unfold insP; rw [if_pos h0]
        rw [e]
        refine ⟨h1, fun z => ⟨.inl, fun h => h.elim id (fun h => ?_)⟩⟩
        unfold In at h; omega
      · have hg : Good r := hr.resolve_left h0
        exact insP_law L r _ h1 (by have := hg.1; omega)
    obtain ⟨i1, i2, i3, i4⟩ := fold_law l (insP L r) (fun s hs => hl s (by simp [hs])) hI.1 g1
    simp only [List.foldl_cons]
    refine ⟨i1, fun z => ?_, i3, by simp only [List.length_cons]; omega⟩
    rw [i2, hI.2]
    simp only [List.mem_cons, exists_eq_or_imp, or_assoc]
theorem setP_law (l : List (Int × Int)) (hl : ∀ r ∈ l, okIn r) :
    Abv (-4398046511105) (setP l) ∧ (∀ z, Has (setP l) z ↔ ∃ r ∈ l, In r z) ∧ (∀ x ∈ setP l, Good x) ∧ (setP l).length ≤ l.length := by
  obtain ⟨i1, i2, i3, i4⟩ := fold_law l [] hl trivial (by simp)
  exact ⟨i1, fun z => by rw [setP, i2]; simp [Has], i3, by simpa [setP] using i4⟩
theorem setP_take_law (l : List (Int × Int)) (hl : ∀ r ∈ l, okIn r) (k : Nat) :
    Abv (-4398046511105) (setP (l.take k)) ∧ (∀ x ∈ setP (l.take k), Good x) ∧ (setP (l.take k)).length ≤ k := by
  obtain ⟨i1, i2, i3, i4⟩ := setP_law (l.take k) (fun r hr => hl r (List.mem_of_mem_take hr))
  exact ⟨i1, i3, Nat.le_trans i4 (List.length_take_le _ _)⟩
end Go.Proofs.Ytmkhkkfliecfdaa.Given
