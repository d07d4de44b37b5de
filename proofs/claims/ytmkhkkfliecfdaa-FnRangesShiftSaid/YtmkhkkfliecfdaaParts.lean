/- Plain facts on the parts of a range that a set of ranges has, or has not, and on the places at which ranges begin and end. No program, no conditions beyond those that each states. -/
import Derived.Test.YtmkhkkfliecfdaaSet
namespace Go.Proofs.Ytmkhkkfliecfdaa.Given
set_option linter.unusedVariables false
set_option linter.unusedSimpArgs false

def interP (a b : Int × Int) : Int × Int :=
  if (b.1 ≤ a.1 ∧ a.1 < b.1 + b.2) ∨ (a.1 ≤ b.1 ∧ b.1 < a.1 + a.2) then
    ((if a.1 < b.1 then b.1 else a.1), (if b.1 + b.2 < a.1 + a.2 then b.1 + b.2 else a.1 + a.2) - (if a.1 < b.1 then b.1 else a.1)) else (0, 0)
def findP (L : List (Int × Int)) (r : Int × Int) : (Int × Int) × (Int × Int) × Bool :=
  if r.2 ≤ 0 then (r, (0, 0), false) else
  let i := srch L r.1
  let p := interP (at_ L (i - 1)) r
  if 0 < i ∧ 0 < p.2 then (p, (p.1 + p.2, r.2 - p.2), true) else
  if L.length ≤ i then (r, (0, 0), false) else
  let q := interP (at_ L i) r
  if q.2 ≤ 0 then (r, (0, 0), false) else
  if r.1 < q.1 then ((r.1, q.1 - r.1), (q.1, r.2 - (q.1 - r.1)), false) else
  (q, (q.1 + q.2, r.2 - q.2), true)

/-- What Find tells of a range that is not empty. -/
structure Found (L : List (Int × Int)) (r : Int × Int) (c n : Int × Int) (b : Bool) : Prop where
  at_ : c.1 = r.1
  pos : 1 ≤ c.2
  le : c.2 ≤ r.2
  same : ∀ z, In c z → (Has L z ↔ b = true)
  more : c.2 < r.2 → (Has L (r.1 + c.2) ↔ b = false) ∧ n = (r.1 + c.2, r.2 - c.2)
  last : c.2 = r.2 → n.2 = 0
theorem not_has_lt {L : List (Int × Int)} {p z : Int} (h : Abv p L) (hz : z ≤ p) : ¬ Has L z := fun h' => by have := h.lt h'; omega
theorem has_lt_all : ∀ {A : List (Int × Int)} {z : Int}, Has A z → ∃ a ∈ A, In a z
  | [], _, h => h.elim
  | a :: A, z, h => by
    rcases h with h | h
    · exact ⟨a, by simp, h⟩
    · obtain ⟨b, hb, hi⟩ := has_lt_all h; exact ⟨b, by simp [hb], hi⟩
theorem endOf_has : ∀ (A : List (Int × Int)) (p : Int) (z : Int), Abv p A → Has A z → z < endOf p A
  | [], _, _, _, h => h.elim
  | a :: A, p, z, ⟨h1, h2, h3⟩, h => by
    rcases h with ⟨_, h⟩ | h
    · exact Int.lt_of_lt_of_le h (endOf_ge A _ h3)
    · exact endOf_has A _ z h3 h
where
  endOf_ge : ∀ (A : List (Int × Int)) (p : Int), Abv p A → p ≤ endOf p A
  | [], _, _ => Int.le_refl _
  | a :: A, p, ⟨h1, h2, h3⟩ => by have := endOf_ge A _ h3; simp only [endOf]; omega
theorem findP_law (L : List (Int × Int)) (r : Int × Int) (p : Int) (hL : Abv p L) (hr : 1 ≤ r.2) : Found L r (findP L r).1 (findP L r).2.1 (findP L r).2.2 := by
  obtain ⟨A, B, rfl, hs, hlt, hge⟩ := srch_split L r.1
  obtain ⟨hA, hB⟩ := (abv_append A B p).1 hL
  have key : (∀ z, r.1 ≤ z → ¬ Has A z) →
      Found (A ++ B) r (if (A ++ B).length ≤ A.length then (r, ((0 : Int), (0 : Int)), false) else if (interP (Given.at_ (A ++ B) A.length) r).2 ≤ 0 then (r, (0, 0), false) else if r.1 < (interP (Given.at_ (A ++ B) A.length) r).1 then ((r.1, (interP (Given.at_ (A ++ B) A.length) r).1 - r.1), ((interP (Given.at_ (A ++ B) A.length) r).1, r.2 - ((interP (Given.at_ (A ++ B) A.length) r).1 - r.1)), false) else (interP (Given.at_ (A ++ B) A.length) r, ((interP (Given.at_ (A ++ B) A.length) r).1 + (interP (Given.at_ (A ++ B) A.length) r).2, r.2 - (interP (Given.at_ (A ++ B) A.length) r).2), true)).1
        (if (A ++ B).length ≤ A.length then (r, ((0 : Int), (0 : Int)), false) else if (interP (Given.at_ (A ++ B) A.length) r).2 ≤ 0 then (r, (0, 0), false) else if r.1 < (interP (Given.at_ (A ++ B) A.length) r).1 then ((r.1, (interP (Given.at_ (A ++ B) A.length) r).1 - r.1), ((interP (Given.at_ (A ++ B) A.length) r).1, r.2 - ((interP (Given.at_ (A ++ B) A.length) r).1 - r.1)), false) else (interP (Given.at_ (A ++ B) A.length) r, ((interP (Given.at_ (A ++ B) A.length) r).1 + (interP (Given.at_ (A ++ B) A.length) r).2, r.2 - (interP (Given.at_ (A ++ B) A.length) r).2), true)).2.1
        (if (A ++ B).length ≤ A.length then (r, ((0 : Int), (0 : Int)), false) else if (interP (Given.at_ (A ++ B) A.length) r).2 ≤ 0 then (r, (0, 0), false) else if r.1 < (interP (Given.at_ (A ++ B) A.length) r).1 then ((r.1, (interP (Given.at_ (A ++ B) A.length) r).1 - r.1), ((interP (Given.at_ (A ++ B) A.length) r).1, r.2 - ((interP (Given.at_ (A ++ B) A.length) r).1 - r.1)), false) else (interP (Given.at_ (A ++ B) A.length) r, ((interP (Given.at_ (A ++ B) A.length) r).1 + (interP (Given.at_ (A ++ B) A.length) r).2, r.2 - (interP (Given.at_ (A ++ B) A.length) r).2), true)).2.2 := by
    intro hno
    cases B with
    | nil =>
      rw [if_pos (by simp)]
      exact ⟨rfl, hr, Int.le_refl _, fun z hz => by simp [hno z hz.1], fun h => by simp only at h; omega, fun _ => rfl⟩
    | cons b bs =>
      obtain ⟨hb1, hb2, hb3⟩ := hB
      have hrb : r.1 ≤ b.1 := hge b rfl
      rw [if_neg (by simp), at_mid A b bs]
      have hin : ∀ z, r.1 ≤ z → (Has (A ++ b :: bs) z ↔ In b z ∨ Has bs z) := fun z hz => by simp [has_append, hno z hz, Has]
      have habs : ∀ z, r.1 ≤ z → z < b.1 → ¬ Has (A ++ b :: bs) z := fun z hz h2 => by
        rw [hin z hz]
        rintro (⟨h3, _⟩ | h3)
        · omega
        · have := hb3.lt h3; omega
      by_cases hend : b.1 < r.1 + r.2
      · have hq : interP b r = (b.1, (if r.1 + r.2 < b.1 + b.2 then r.1 + r.2 else b.1 + b.2) - b.1) := by
          unfold interP
          rw [if_pos (.inl ⟨hrb, hend⟩)]
          simp only [Prod.mk.injEq]
          rw [if_neg (by omega)]; exact ⟨rfl, rfl⟩
        rw [hq]
        have hq2 : ¬ ((if r.1 + r.2 < b.1 + b.2 then r.1 + r.2 else b.1 + b.2) - b.1 ≤ 0) := by split <;> omega
        simp only
        rw [if_neg hq2]
        by_cases hlt' : r.1 < b.1
        · rw [if_pos hlt']
          refine ⟨rfl, by simp only; omega, by simp only; omega, fun z hz => ?_, fun h => ⟨?_, ?_⟩, fun h => by have h' : b.1 - r.1 = r.2 := h; omega⟩
          · have h1 : r.1 ≤ z := hz.1
            have h2 : z < r.1 + (b.1 - r.1) := hz.2
            have := habs z h1 (by omega)
            simp [this]
          · rw [show r.1 + (b.1 - r.1) = b.1 by omega, hin b.1 hrb]
            simp only [iff_true]
            exact .inl ⟨by omega, by omega⟩
          · exact Prod.ext (by show b.1 = r.1 + (b.1 - r.1); omega) rfl
        · rw [if_neg hlt']
          have hrb' : r.1 = b.1 := by omega
          refine ⟨hrb'.symm, by simp only; omega, by simp only; split <;> omega, fun z hz => ?_, fun h => ?_, fun h => by have h' : (if r.1 + r.2 < b.1 + b.2 then r.1 + r.2 else b.1 + b.2) - b.1 = r.2 := h; show r.2 - ((if r.1 + r.2 < b.1 + b.2 then r.1 + r.2 else b.1 + b.2) - b.1) = 0; omega⟩
          · rw [hin z (by have h1 : b.1 ≤ z := hz.1; omega)]
            simp only [iff_true]
            have h1 := hz.1
            have h2 := hz.2
            simp only at h1 h2
            exact .inl ⟨h1, by split at h2 <;> omega⟩
          · simp only at h ⊢
            have hle : ¬ (r.1 + r.2 < b.1 + b.2) := by intro h'; rw [if_pos h'] at h; omega
            rw [if_neg hle] at h ⊢
            refine ⟨?_, Prod.ext (by show b.1 + (b.1 + b.2 - b.1) = r.1 + (b.1 + b.2 - b.1); omega) rfl⟩
            rw [show r.1 + (b.1 + b.2 - b.1) = b.1 + b.2 by omega, hin _ (by omega)]
            simp only [Bool.true_eq_false, iff_false]
            rintro (⟨_, h3⟩ | h3)
            · omega
            · have := hb3.lt h3; omega
      · have hq : (interP b r).2 ≤ 0 := by
          unfold interP
          split
          · simp only; repeat' split
            all_goals omega
          · exact Int.le_refl _
        rw [if_pos hq]
        exact ⟨rfl, hr, Int.le_refl _, fun z hz => by have h2 : z < r.1 + r.2 := hz.2; have := habs z hz.1 (by omega); simp [this], fun h => by simp only at h; omega, fun _ => rfl⟩
  unfold findP
  rw [if_neg (by omega)]
  simp only [hs]
  rcases List.eq_nil_or_concat A with rfl | ⟨A0, a, rfl⟩
  · rw [if_neg (by simp)]
    exact key (fun z _ h => h)
  · simp only [List.concat_eq_append] at *
    have e1 : Given.at_ (A0 ++ [a] ++ B) ((A0 ++ [a]).length - 1) = a := by
      rw [List.append_assoc]
      have := at_mid A0 a B
      simpa using this
    obtain ⟨hA0, ha1, ha2, -⟩ := (abv_append A0 [a] p).1 hA
    have har := hlt a (by simp)
    rw [e1]
    by_cases hend : r.1 < a.1 + a.2
    · have hq : interP a r = (r.1, (if r.1 + r.2 < a.1 + a.2 then r.1 + r.2 else a.1 + a.2) - r.1) := by
        unfold interP
        rw [if_pos (.inr ⟨by omega, hend⟩)]
        simp only [Prod.mk.injEq]
        rw [if_pos (by omega)]; exact ⟨rfl, rfl⟩
      have hq2 : 0 < (interP a r).2 := by rw [hq]; simp only; split <;> omega
      rw [if_pos ⟨by simp, hq2⟩, hq]
      rw [endOf_snoc] at hB
      refine ⟨rfl, by simp only; split <;> omega, by simp only; split <;> omega, fun z hz => ?_, fun h => ?_, fun h => by have h' : (if r.1 + r.2 < a.1 + a.2 then r.1 + r.2 else a.1 + a.2) - r.1 = r.2 := h; show r.2 - ((if r.1 + r.2 < a.1 + a.2 then r.1 + r.2 else a.1 + a.2) - r.1) = 0; omega⟩
      · simp only [iff_true, has_append, Has]
        refine .inl (.inr (.inl ?_))
        have h1 := hz.1
        have h2 := hz.2
        simp only at h1 h2
        exact ⟨by omega, by split at h2 <;> omega⟩
      · simp only at h ⊢
        have hle : ¬ (r.1 + r.2 < a.1 + a.2) := by intro h'; rw [if_pos h'] at h; omega
        rw [if_neg hle] at h ⊢
        refine ⟨?_, trivial⟩
        rw [show r.1 + (a.1 + a.2 - r.1) = a.1 + a.2 by omega]
        simp only [Bool.true_eq_false, iff_false]
        rw [has_append]
        rintro (h3 | h3)
        · have := endOf_has _ p _ hA h3
          rw [endOf_snoc] at this
          omega
        · have := hB.lt h3; omega
    · have hq : ¬ 0 < (interP a r).2 := by
        unfold interP
        rw [if_neg (by omega)]
        decide
      rw [if_neg (fun h => hq h.2)]
      refine key fun z hz h => ?_
      have := endOf_has _ p _ hA h
      rw [endOf_snoc] at this
      omega

/-- xs cover what lies from p up to q, each of one kind, told by its flag, by turns -/
def Cov (h : Int → Prop) : Int → List ((Int × Int) × Bool) → Int → Prop
  | p, [], q => p = q
  | p, x :: xs, q => x.1.1 = p ∧ 1 ≤ x.1.2 ∧ (∀ z, In x.1 z → (h z ↔ x.2 = true)) ∧ (∀ y ∈ xs.head?, y.2 ≠ x.2) ∧ Cov h (p + x.1.2) xs q
theorem Cov.le : ∀ {h : Int → Prop} {xs : List ((Int × Int) × Bool)} {p q : Int}, Cov h p xs q → p ≤ q
  | _, [], _, _, e => Int.le_of_eq e
  | h, x :: xs, p, q, ⟨_, h2, _, _, h5⟩ => by have := Cov.le h5; omega
theorem bool_iff {P : Prop} {a b : Bool} (h1 : P ↔ a = true) (h2 : P ↔ b = true) : a = b := by
  cases a <;> cases b <;> simp_all
theorem cov_short {h : Int → Prop} {x y : (Int × Int) × Bool} {xs ys : List ((Int × Int) × Bool)} {p q : Int} (hx : Cov h p (x :: xs) q) (hy : Cov h p (y :: ys) q) : ¬ x.1.2 < y.1.2 := by
  intro hlt
  obtain ⟨a1, a2, a3, a4, a5⟩ := hx
  obtain ⟨b1, b2, b3, b4, b5⟩ := hy
  have hf : x.2 = y.2 := bool_iff (a3 p ⟨by omega, by omega⟩) (b3 p ⟨by omega, by omega⟩)
  have := b5.le
  cases xs with
  | nil => simp only [Cov] at a5; omega
  | cons z zs =>
    obtain ⟨c1, c2, c3, c4, c5⟩ := a5
    have hz : z.2 ≠ x.2 := a4 z rfl
    have h1 := c3 (p + x.1.2) ⟨by omega, by omega⟩
    have h2 := b3 (p + x.1.2) ⟨by omega, by omega⟩
    exact hz ((bool_iff h1 h2).trans hf.symm)
theorem cov_ext : ∀ {h : Int → Prop} (xs ys : List ((Int × Int) × Bool)) {p q : Int}, Cov h p xs q → Cov h p ys q → xs = ys
  | _, [], [], _, _, _, _ => rfl
  | _, [], y :: ys, p, q, e, hy => by
    obtain ⟨_, b2, _, _, b5⟩ := hy
    have := b5.le
    simp only [Cov] at e
    omega
  | _, x :: xs, [], p, q, hx, e => by
    obtain ⟨_, b2, _, _, b5⟩ := hx
    have := b5.le
    simp only [Cov] at e
    omega
  | h, x :: xs, y :: ys, p, q, hx, hy => by
    have h1 := cov_short hx hy
    have h2 := cov_short hy hx
    obtain ⟨a1, a2, a3, a4, a5⟩ := hx
    obtain ⟨b1, b2, b3, b4, b5⟩ := hy
    have es : x.1.2 = y.1.2 := by omega
    have ef : x.2 = y.2 := bool_iff (a3 p ⟨by omega, by omega⟩) (b3 p ⟨by omega, by omega⟩)
    have exy : x = y := Prod.ext (Prod.ext (by omega) es) ef
    subst exy
    exact congrArg _ (cov_ext xs ys a5 b5)
theorem Cov.iff : ∀ {h h' : Int → Prop} {xs : List ((Int × Int) × Bool)} {p q : Int}, (∀ z, h z ↔ h' z) → Cov h p xs q → Cov h' p xs q
  | _, _, [], _, _, _, e => e
  | h, h', x :: xs, p, q, hh, ⟨h1, h2, h3, h4, h5⟩ => ⟨h1, h2, fun z hz => (hh z).symm.trans (h3 z hz), h4, h5.iff hh⟩
/-- one part more behind the others -/
theorem Cov.snoc : ∀ {h : Int → Prop} {xs : List ((Int × Int) × Bool)} {p q : Int} {x : (Int × Int) × Bool}, Cov h p xs q → x.1.1 = q → 1 ≤ x.1.2 → (∀ z, In x.1 z → (h z ↔ x.2 = true)) → (∀ y ∈ xs.getLast?, y.2 ≠ x.2) → Cov h p (xs ++ [x]) (q + x.1.2)
  | _, [], p, q, x, e, h1, h2, h3, _ => by simp only [Cov] at e; subst e; exact ⟨h1, h2, h3, by simp, rfl⟩
  | h, y :: ys, p, q, x, ⟨a1, a2, a3, a4, a5⟩, h1, h2, h3, h4 => by
    refine ⟨a1, a2, a3, ?_, a5.snoc h1 h2 h3 ?_⟩
    · cases ys with
      | nil => intro z hz; simp at hz; subst hz; intro e; exact h4 y (by simp) e.symm
      | cons z zs => simpa using a4
    · cases ys with
      | nil => simp
      | cons z zs => intro u hu; exact h4 u (by rw [List.getLast?_cons_cons]; exact hu)
/-- the last part made longer -/
theorem Cov.longer : ∀ {h : Int → Prop} {xs : List ((Int × Int) × Bool)} {p q : Int} {x : (Int × Int) × Bool} {n : Int}, Cov h p (xs ++ [x]) q → 1 ≤ n → (∀ z, q ≤ z → z < q + n → (h z ↔ x.2 = true)) → Cov h p (xs ++ [((x.1.1, x.1.2 + n), x.2)]) (q + n)
  | _, [], p, q, x, n, ⟨a1, a2, a3, a4, a5⟩, hn, hz => by
    simp only [Cov] at a5
    refine ⟨a1, by simp only; omega, fun z hi => ?_, by simp, by simp only [Cov]; omega⟩
    have h1 := hi.1
    have h2 := hi.2
    simp only at h1 h2
    by_cases hlt : z < q
    · exact a3 z ⟨h1, by omega⟩
    · exact hz z (by omega) (by omega)
  | h, y :: ys, p, q, x, n, ⟨a1, a2, a3, a4, a5⟩, hn, hz => by
    refine ⟨a1, a2, a3, ?_, a5.longer hn hz⟩
    cases ys with
    | nil => intro u hu; simp at hu; subst hu; exact a4 x (by simp)
    | cons z zs => simpa using a4
/-- the same, moved on -/
theorem Cov.shift : ∀ {h : Int → Prop} {xs : List ((Int × Int) × Bool)} {p q : Int} (d : Int), Cov h p xs q → Cov (fun z => h (z - d)) (p + d) (xs.map fun x => ((x.1.1 + d, x.1.2), x.2)) (q + d)
  | _, [], p, q, d, e => by simp only [Cov] at e; subst e; rfl
  | h, x :: xs, p, q, d, ⟨a1, a2, a3, a4, a5⟩ => by
    refine ⟨by simp only; omega, a2, fun z hz => ?_, ?_, ?_⟩
    · have h1 := hz.1
      have h2 := hz.2
      simp only at h1 h2
      exact a3 (z - d) ⟨by omega, by omega⟩
    · cases xs with
      | nil => simp
      | cons y ys => intro u hu; simp at hu; subst hu; exact a4 y (by simp)
    · have := a5.shift d
      rw [show p + d + x.1.2 = p + x.1.2 + d by omega]
      exact this

/-! The marks -/
def insM (out : List Int) (p : Int) : List Int :=
  let i := (out.takeWhile fun x => decide (x < p)).length
  if i < out.length ∧ out.getD i 0 = p then out else out.take i ++ p :: out.drop i
def marksP (l : List (Int × Int)) : List Int := l.foldl (fun out r => if r.2 < 1 then out else insM (insM out r.1) (r.1 + r.2)) []
/-- rising, all behind p -/
def Rise : Int → List Int → Prop
  | _, [] => True
  | p, x :: L => p < x ∧ Rise x L
theorem Rise.mono : ∀ {L : List Int} {p q : Int}, q ≤ p → Rise p L → Rise q L
  | [], _, _, _, _ => trivial
  | _ :: _, _, _, h, ⟨a, b⟩ => ⟨by omega, b⟩
theorem Rise.lt : ∀ {L : List Int} {p z : Int}, Rise p L → z ∈ L → p < z
  | x :: L, p, z, ⟨a, b⟩, h => by
    rcases List.mem_cons.1 h with rfl | h
    · exact a
    · have := Rise.lt b h; omega
theorem insM_cons (x : Int) (L : List Int) (p : Int) : insM (x :: L) p = if x < p then x :: insM L p else if x = p then x :: L else p :: x :: L := by
  unfold insM
  simp only [List.takeWhile_cons]
  by_cases h : x < p
  · simp only [h, decide_true, if_true, List.length_cons, List.getD_cons_succ, List.take_succ_cons, List.drop_succ_cons, List.cons_append, Nat.add_lt_add_iff_right]
    split <;> rfl
  · simp only [h, decide_false, if_false, List.length_nil, List.length_cons, Bool.false_eq_true]
    by_cases he : x = p <;> simp [he]
theorem insM_law : ∀ (L : List Int) (p q : Int), Rise q L → q < p → Rise q (insM L p) ∧ ∀ z, z ∈ insM L p ↔ z ∈ L ∨ z = p
  | [], p, q, _, h => ⟨⟨h, trivial⟩, fun z => by simp [insM]⟩
  | x :: L, p, q, ⟨a, b⟩, h => by
    rw [insM_cons]
    by_cases h1 : x < p
    · rw [if_pos h1]
      obtain ⟨i1, i2⟩ := insM_law L p x b h1
      exact ⟨⟨a, i1⟩, fun z => by simp only [List.mem_cons, i2, or_assoc]⟩
    · rw [if_neg h1]
      by_cases h2 : x = p
      · rw [if_pos h2]
        exact ⟨⟨a, b⟩, fun z => ⟨.inl, fun h => h.elim id (fun e => by rw [e, h2]; exact List.mem_cons_self)⟩⟩
      · rw [if_neg h2]
        exact ⟨⟨h, by omega, b⟩, fun z => by simp only [List.mem_cons]; constructor <;> intro h <;> simp_all [or_comm, or_assoc, or_left_comm]⟩
theorem marks_law : ∀ (l : List (Int × Int)) (q : Int) (out : List Int), (∀ r ∈ l, q < r.1) → Rise q out →
    Rise q (l.foldl (fun out r => if r.2 < 1 then out else insM (insM out r.1) (r.1 + r.2)) out) ∧
      ∀ z, z ∈ l.foldl (fun out r => if r.2 < 1 then out else insM (insM out r.1) (r.1 + r.2)) out ↔ z ∈ out ∨ ∃ r ∈ l, 1 ≤ r.2 ∧ (z = r.1 ∨ z = r.1 + r.2)
  | [], q, out, _, h => ⟨h, fun z => by simp⟩
  | r :: l, q, out, hq, h => by
    have hr := hq r (by simp)
    have hl : ∀ r ∈ l, q < r.1 := fun s hs => hq s (by simp [hs])
    simp only [List.foldl_cons]
    by_cases h1 : r.2 < 1
    · rw [if_pos h1]
      obtain ⟨i1, i2⟩ := marks_law l q out hl h
      refine ⟨i1, fun z => ?_⟩
      rw [i2]
      simp only [List.mem_cons, exists_eq_or_imp]
      constructor
      · rintro (h | h)
        · exact .inl h
        · exact .inr (.inr h)
      · rintro (h | ⟨h, _⟩ | h)
        · exact .inl h
        · omega
        · exact .inr h
    · rw [if_neg h1]
      obtain ⟨j1, j2⟩ := insM_law out r.1 q h hr
      obtain ⟨k1, k2⟩ := insM_law _ (r.1 + r.2) q j1 (by omega)
      obtain ⟨i1, i2⟩ := marks_law l q _ hl k1
      refine ⟨i1, fun z => ?_⟩
      rw [i2, k2, j2]
      simp only [List.mem_cons, exists_eq_or_imp]
      have : 1 ≤ r.2 := by omega
      simp only [this, true_and, or_assoc]
end Go.Proofs.Ytmkhkkfliecfdaa.Given
