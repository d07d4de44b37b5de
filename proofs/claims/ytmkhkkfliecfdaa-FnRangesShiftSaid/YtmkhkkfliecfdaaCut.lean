/- Plain facts on sorted, coalesced lists of ranges: what lies within a range, part by part. No program, no conditions beyond those that each states. -/
import Derived.Test.YtmkhkkfliecfdaaSetP
set_option linter.unusedVariables false
set_option linter.unusedSimpArgs false
namespace Go.Proofs.Ytmkhkkfliecfdaa.Given

theorem has_of_mem : ∀ {A : List (Int × Int)} {x : Int × Int} {z : Int}, x ∈ A → In x z → Has A z
  | [], _, _, h, _ => by cases h
  | a :: A, x, z, h, hi => by
    rcases List.mem_cons.1 h with rfl | h
    · exact .inl hi
    · exact .inr (has_of_mem h hi)
def clip (x r : Int × Int) : Int × Int :=
  (if x.1 < r.1 then r.1 else x.1, (if r.1 + r.2 < x.1 + x.2 then r.1 + r.2 else x.1 + x.2) - (if x.1 < r.1 then r.1 else x.1))
theorem clip_in (x r : Int × Int) (z : Int) : In (clip x r) z ↔ In x z ∧ In r z := by
  unfold In clip; simp only; split <;> split <;> omega
theorem clip_le (x r : Int × Int) : x.1 ≤ (clip x r).1 ∧ (clip x r).1 + (clip x r).2 ≤ x.1 + x.2 ∧ r.1 ≤ (clip x r).1 ∧ ((clip x r).1 = x.1 ∨ (clip x r).1 = r.1) := by
  unfold clip; simp only; split <;> split <;> omega
def cutS (L : List (Int × Int)) (r : Int × Int) : List (Int × Int) := (L.map fun x => clip x r).filter fun x => decide (0 < x.2)
theorem cutS_cons (x : Int × Int) (L : List (Int × Int)) (r : Int × Int) : cutS (x :: L) r = if 0 < (clip x r).2 then clip x r :: cutS L r else cutS L r := by
  unfold cutS
  rw [List.map_cons, List.filter_cons]
  simp only [decide_eq_true_eq]
theorem cutS_mem {L : List (Int × Int)} {r y : Int × Int} (h : y ∈ cutS L r) : ∃ x ∈ L, y = clip x r ∧ 0 < y.2 := by
  unfold cutS at h
  obtain ⟨h1, h2⟩ := List.mem_filter.1 h
  obtain ⟨x, hx, rfl⟩ := List.mem_map.1 h1
  exact ⟨x, hx, rfl, of_decide_eq_true h2⟩
theorem cutS_len (L : List (Int × Int)) (r : Int × Int) : (cutS L r).length ≤ L.length := by
  unfold cutS
  have := List.length_filter_le (fun x : Int × Int => decide (0 < x.2)) (L.map fun x => clip x r)
  simpa using this
theorem cutS_has : ∀ (L : List (Int × Int)) (r : Int × Int) (z : Int), Has (cutS L r) z ↔ Has L z ∧ In r z
  | [], r, z => by simp [cutS, Has]
  | x :: L, r, z => by
    have ih := cutS_has L r z
    have hc := clip_in x r z
    rw [cutS_cons]
    split
    · show In _ z ∨ Has _ z ↔ (In x z ∨ Has L z) ∧ In r z
      rw [ih, hc]
      constructor
      · rintro (⟨h1, h2⟩ | ⟨h1, h2⟩)
        · exact ⟨.inl h1, h2⟩
        · exact ⟨.inr h1, h2⟩
      · rintro ⟨h1 | h1, h2⟩
        · exact .inl ⟨h1, h2⟩
        · exact .inr ⟨h1, h2⟩
    · rename_i hn
      show Has _ z ↔ (In x z ∨ Has L z) ∧ In r z
      rw [ih]
      constructor
      · rintro ⟨h1, h2⟩; exact ⟨.inr h1, h2⟩
      · rintro ⟨h1 | h1, h2⟩
        · have := hc.2 ⟨h1, h2⟩
          unfold In at this; omega
        · exact ⟨h1, h2⟩
theorem cutS_abv : ∀ (L : List (Int × Int)) (r : Int × Int) (p : Int), Abv p L → Abv p (cutS L r)
  | [], r, p, _ => trivial
  | x :: L, r, p, ⟨h1, h2, h3⟩ => by
    have hc := clip_le x r
    rw [cutS_cons]
    have ih := cutS_abv L r _ h3
    split
    · exact ⟨by omega, by omega, ih.mono (by omega)⟩
    · exact ih.mono (by omega)
theorem cutS_good {L : List (Int × Int)} {r : Int × Int} (hG : ∀ x ∈ L, Good x) (hr : -4398046511104 ≤ r.1 ∧ r.1 ≤ 4398046511104) : ∀ y ∈ cutS L r, Good y := by
  intro y hy
  obtain ⟨x, hx, rfl, h0⟩ := cutS_mem hy
  obtain ⟨g1, g2, g3, g4⟩ := hG x hx
  have := clip_le x r
  refine ⟨?_, ?_, ?_, ?_⟩ <;> omega
theorem cutS_none {L : List (Int × Int)} {r : Int × Int} {p : Int} (hL : Abv p L) (hr : r.2 ≤ 0) : cutS L r = [] := by
  refine abv_ext _ _ _ p (cutS_abv L r p hL) trivial fun z => ?_
  rw [cutS_has]
  simp only [Has, iff_false, not_and]
  intro _ h
  unfold In at h; omega
/-- How far the parts of a range have been told: q, t: what is left. -/
def Left (L : List (Int × Int)) (p s q t : Int) (acc : List (Int × Int)) : Prop :=
  (t ≤ 0 ∧ acc = cutS L (p, s)) ∨ (1 ≤ t ∧ p ≤ q ∧ q + t = p + s ∧ acc = cutS L (p, q - p) ∧ (q = p ∨ (Has L (q - 1) ↔ ¬ Has L q)))
section
variable {L : List (Int × Int)} (hL : Abv (-4398046511105) L) (hG : ∀ x ∈ L, Good x) {p s : Int}
include hL
theorem Left.start : Left L p s p s [] := by
  by_cases h : s ≤ 0
  · exact .inl ⟨h, (cutS_none hL (by exact h)).symm⟩
  · exact .inr ⟨by omega, by omega, rfl, (cutS_none hL (by simp)).symm, .inl rfl⟩
include hG
theorem Left.round (hr : Good (p, s)) {q t : Int} {acc : List (Int × Int)} (h : Left L p s q t acc) (ht : 1 ≤ t) :
    Left L p s (findP L (q, t)).2.1.1 (findP L (q, t)).2.1.2 (if (findP L (q, t)).2.2 = true then insP acc (findP L (q, t)).1 else acc) ∧
      (findP L (q, t)).2.1.2.toNat < t.toNat ∧ ((findP L (q, t)).2.2 = true → Good (findP L (q, t)).1) ∧ Near (q, t) := by
  obtain ⟨g1, g2, g3, g4⟩ := hr
  simp only at g1 g2 g3 g4
  rcases h with ⟨h1, _⟩ | ⟨_, h2, h3, h4, h5⟩
  · omega
  have hf := findP_law L (q, t) _ hL ht
  generalize findP L (q, t) = X at *
  obtain ⟨c, n, b⟩ := X
  obtain ⟨f1, f2, f3, f4, f5, f6⟩ := hf
  simp only at f1 f3 f4 f5 f6 ⊢
  obtain ⟨c1, c2⟩ := c
  obtain rfl : c1 = q := f1
  simp only at f2 f3 f4 f5 f6 ⊢
  have hacc : (if b = true then insP acc (c1, c2) else acc) = cutS L (p, c1 + c2 - p) := by
    have hab : Abv (-4398046511105) acc := by rw [h4]; exact cutS_abv L _ _ hL
    refine abv_ext _ _ (-4398046511105) (-4398046511105) ?_ (cutS_abv L _ _ hL) fun z => ?_
    · split
      · exact (insP_law acc (c1, c2) _ hab (by simp only; omega)).1
      · exact hab
    · have hz := f4 z
      rw [cutS_has]
      have ha : Has acc z ↔ Has L z ∧ In (p, c1 - p) z := by rw [h4, cutS_has]
      have hin : In (p, c1 + c2 - p) z ↔ In (p, c1 - p) z ∨ In (c1, c2) z := by unfold In; simp only; omega
      rw [hin]
      cases b with
      | true =>
        simp only [if_true]
        rw [(insP_law acc (c1, c2) _ hab (by simp only; omega)).2, ha]
        constructor
        · rintro (⟨k1, k2⟩ | k)
          · exact ⟨k1, .inl k2⟩
          · exact ⟨(hz k).2 rfl, .inr k⟩
        · rintro ⟨k1, k2 | k2⟩
          · exact .inl ⟨k1, k2⟩
          · exact .inr k2
      | false =>
        simp only [Bool.false_eq_true, if_false]
        rw [ha]
        constructor
        · rintro ⟨k1, k2⟩; exact ⟨k1, .inl k2⟩
        · rintro ⟨k1, k2 | k2⟩
          · exact ⟨k1, k2⟩
          · exact absurd ((hz k2).1 k1) (by simp)
  refine ⟨?_, ?_, ?_, ⟨by simp only; omega, by simp only; omega, by simp only; omega, by simp only; omega⟩⟩
  · rw [hacc]
    by_cases hlt : c2 < t
    · obtain ⟨k1, rfl⟩ := f5 hlt
      refine .inr ⟨by simp only; omega, by simp only; omega, by simp only; omega, rfl, .inr ?_⟩
      simp only
      have e := f4 (c1 + c2 - 1) (by unfold In; simp only; omega)
      rw [e, k1]
      cases b <;> simp
    · refine .inl ⟨by have := f6 (by omega); omega, ?_⟩
      rw [show c1 + c2 - p = s by omega]
  · by_cases hlt : c2 < t
    · obtain ⟨k1, rfl⟩ := f5 hlt
      simp only; omega
    · have := f6 (by omega); omega
  · rintro rfl
    have e1 := (f4 c1 (by unfold In; simp only; omega)).2 rfl
    have e2 := (f4 (c1 + c2 - 1) (by unfold In; simp only; omega)).2 rfl
    obtain ⟨x, hx, hx1⟩ := has_lt_all e1
    obtain ⟨y, hy, hy1⟩ := has_lt_all e2
    obtain ⟨x1, x2, x3, x4⟩ := hG x hx
    obtain ⟨y1, y2, y3, y4⟩ := hG y hy
    unfold In at hx1 hy1
    refine ⟨by simp only; omega, ?_, f2, by simp only; omega⟩
    simp only
    rcases h5 with h5 | h5
    · omega
    · have : x.1 = c1 := by
        have : ¬ In x (c1 - 1) := fun k => (h5.1 (has_of_mem hx k)) e1
        unfold In at this; omega
      omega
theorem Left.good (hp : -4398046511104 ≤ p ∧ p ≤ 4398046511104) {q t : Int} {acc : List (Int × Int)} (h : Left L p s q t acc) : (∀ x ∈ acc, Good x) ∧ acc.length ≤ L.length ∧ Abv (-4398046511105) acc := by
  rcases h with ⟨_, rfl⟩ | ⟨_, _, _, rfl, _⟩
  · exact ⟨cutS_good hG hp, cutS_len _ _, cutS_abv _ _ _ hL⟩
  · exact ⟨cutS_good hG hp, cutS_len _ _, cutS_abv _ _ _ hL⟩
end
end Go.Proofs.Ytmkhkkfliecfdaa.Given
