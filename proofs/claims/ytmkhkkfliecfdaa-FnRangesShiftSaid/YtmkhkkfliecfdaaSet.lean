/- Plain facts on sorted, coalesced lists of ranges: what insertion makes of them, byte by byte. No program, no conditions beyond those that each states. -/
import Init
set_option linter.unusedVariables false
set_option linter.unusedSimpArgs false
namespace Go.Proofs.Ytmkhkkfliecfdaa.Given

def merged (n d : Int × Int) : Int × Int := (n.1, if d.1 + d.2 < n.1 + n.2 then n.2 else d.2 + (d.1 - n.1))
def touches (n d : Int × Int) : Bool := decide (d.1 ≤ n.1 + n.2)
def at_ (L : List (Int × Int)) (i : Nat) : Int × Int := L.getD i (0, 0)
theorem at_eq {L : List (Int × Int)} {i : Nat} (h : i < L.length) : at_ L i = L[i] := by simp [at_, h]
/-- the range at i taken into the one behind it -/
def joinAt (L : List (Int × Int)) (i : Nat) : List (Int × Int) := L.set (i + 1) (merged (at_ L i) (at_ L (i + 1)))
theorem joinAt_length (L : List (Int × Int)) (i : Nat) : (joinAt L i).length = L.length := by simp [joinAt]
def chain : Nat → List (Int × Int) → Nat → List (Int × Int) × Nat
  | 0, L, j => (L, j)
  | m + 1, L, j => if touches (at_ L j) (at_ L (j + 1)) then chain m (joinAt L j) (j + 1) else (L, j)
def coalP (L : List (Int × Int)) (i : Nat) : List (Int × Int) :=
  let a := if 0 < i ∧ touches (at_ L (i - 1)) (at_ L i) then (joinAt L (i - 1), i - 1) else (L, i)
  let c := chain (L.length - 1 - i) a.1 i
  c.1.take a.2 ++ c.1.drop c.2
/-- the first place whose range begins at p or behind it -/
def srch (L : List (Int × Int)) (p : Int) : Nat := (L.takeWhile fun x => decide (x.1 < p)).length
def insP (L : List (Int × Int)) (r : Int × Int) : List (Int × Int) :=
  if r.2 ≤ 0 then L else
  if L.length = 0 then [r] else
  if srch L r.1 = L.length ∨ touches r (at_ L (srch L r.1)) = false then coalP (L.take (srch L r.1) ++ r :: L.drop (srch L r.1)) (srch L r.1)
  else coalP (L.set (srch L r.1) (merged r (at_ L (srch L r.1)))) (srch L r.1)

def absorb : (Int × Int) → List (Int × Int) → List (Int × Int)
  | x, [] => [x]
  | x, y :: ys => if touches x y then absorb (merged x y) ys else x :: y :: ys

theorem at_mid (P : List (Int × Int)) (x : Int × Int) (B : List (Int × Int)) : at_ (P ++ x :: B) P.length = x := by simp [at_]
theorem at_mid1 (P : List (Int × Int)) (x y : Int × Int) (B : List (Int × Int)) : at_ (P ++ x :: y :: B) (P.length + 1) = y := by simp [at_]
theorem chain_at : ∀ (B : List (Int × Int)) (P : List (Int × Int)) (x : Int × Int),
    ∃ L2 e, chain B.length (P ++ x :: B) P.length = (L2, e) ∧ P.length ≤ e ∧ e < L2.length ∧ L2.length = (P ++ x :: B).length ∧ L2.take P.length = P ∧ L2.drop e = absorb x B
  | [], P, x => ⟨P ++ [x], P.length, rfl, Nat.le_refl _, by simp, rfl, by simp, by simp [absorb]⟩
  | y :: ys, P, x => by
    simp only [List.length_cons, chain, at_mid, at_mid1, absorb]
    cases ht : touches x y with
    | false => exact ⟨_, _, rfl, Nat.le_refl _, by simp, by simp, by simp, by simp⟩
    | true =>
      have e1 : joinAt (P ++ x :: y :: ys) P.length = (P ++ [x]) ++ merged x y :: ys := by
        simp [joinAt, at_mid, at_mid1]
      obtain ⟨L2, e, h1, h2, h3, h4, h5, h6⟩ := chain_at ys (P ++ [x]) (merged x y)
      simp only [List.length_append, List.length_cons, List.length_nil] at h1 h2 h4 h5
      refine ⟨L2, e, by simp only [if_true]; rw [e1]; exact h1, by omega, h3, by simp; omega, ?_, by simpa using h6⟩
      have : L2.take P.length = (L2.take (P.length + (0 + 1))).take P.length := by rw [List.take_take]; congr 1; omega
      rw [this, h5]; simp
/-- coalescing at the place of x -/
theorem coalP_first (B : List (Int × Int)) (x : Int × Int) : coalP (x :: B) 0 = absorb x B := by
  obtain ⟨L2, e, h1, h2, h3, h4, h5, h6⟩ := chain_at B [] x
  simp only [List.nil_append, List.length_nil] at h1 h5
  simp [coalP, h1, h6]
theorem coalP_mid (A : List (Int × Int)) (a x : Int × Int) (B : List (Int × Int)) :
    coalP ((A ++ [a]) ++ x :: B) (A.length + 1) = if touches a x then A ++ absorb (merged a x) B else A ++ a :: absorb x B := by
  have ea : at_ ((A ++ [a]) ++ x :: B) (A.length + 1 - 1) = a := by rw [Nat.add_sub_cancel, List.append_assoc]; exact at_mid A a (x :: B)
  have ex : at_ ((A ++ [a]) ++ x :: B) (A.length + 1) = x := by have := at_mid (A ++ [a]) x B; simpa using this
  have el : ((A ++ [a]) ++ x :: B).length - 1 - (A.length + 1) = B.length := by simp; omega
  unfold coalP
  simp only [ea, ex, el]
  cases ht : touches a x with
  | false =>
    obtain ⟨L2, e, h1, h2, h3, h4, h5, h6⟩ := chain_at B (A ++ [a]) x
    simp only [List.length_append, List.length_cons, List.length_nil, Nat.zero_add] at h1 h5
    simp only [Bool.false_eq_true, and_false, if_false, h1, h5, h6]
    simp
  | true =>
    have e1 : joinAt ((A ++ [a]) ++ x :: B) (A.length + 1 - 1) = (A ++ [a]) ++ merged a x :: B := by
      unfold joinAt
      rw [ea, show A.length + 1 - 1 + 1 = A.length + 1 by omega, ex]
      simp
    obtain ⟨L2, e, h1, h2, h3, h4, h5, h6⟩ := chain_at B (A ++ [a]) (merged a x)
    simp only [List.length_append, List.length_cons, List.length_nil, Nat.zero_add] at h1 h5
    rw [Nat.add_sub_cancel] at e1
    simp only [Nat.succ_pos, true_and, if_true, Nat.add_sub_cancel, e1, h1, h6]
    have : L2.take A.length = A := by
      have h : L2.take A.length = (L2.take (A.length + 1)).take A.length := by rw [List.take_take]; congr 1; omega
      rw [h, h5]; simp
    rw [this]

/-- byte z is in range x; in one of L -/
def In (x : Int × Int) (z : Int) : Prop := x.1 ≤ z ∧ z < x.1 + x.2
def Has : List (Int × Int) → Int → Prop
  | [], _ => False
  | x :: L, z => In x z ∨ Has L z
theorem has_append (A B : List (Int × Int)) (z : Int) : Has (A ++ B) z ↔ Has A z ∨ Has B z := by
  induction A with
  | nil => simp [Has]
  | cons a A ih => simp only [List.cons_append, Has, ih]; exact or_assoc.symm
/-- rising, none empty, a gap between each two, all behind p -/
def Abv : Int → List (Int × Int) → Prop
  | _, [] => True
  | p, x :: L => p < x.1 ∧ 1 ≤ x.2 ∧ Abv (x.1 + x.2) L
theorem Abv.mono : ∀ {L : List (Int × Int)} {p q : Int}, q ≤ p → Abv p L → Abv q L
  | [], _, _, _, _ => trivial
  | _ :: _, _, _, h, ⟨a, b, c⟩ => ⟨by omega, b, c⟩
theorem Abv.lt : ∀ {L : List (Int × Int)} {p z : Int}, Abv p L → Has L z → p < z
  | [], _, _, _, h => h.elim
  | x :: L, p, z, ⟨a, b, c⟩, h => by
    rcases h with ⟨h1, _⟩ | h
    · omega
    · have := Abv.lt c h; omega
/-- where the last of A ends; p, if there is none -/
def endOf : Int → List (Int × Int) → Int
  | p, [] => p
  | _, x :: L => endOf (x.1 + x.2) L
theorem endOf_snoc (A : List (Int × Int)) (a : Int × Int) : ∀ p, endOf p (A ++ [a]) = a.1 + a.2 := by
  induction A with
  | nil => intro p; rfl
  | cons x A ih => intro p; exact ih _
theorem abv_append : ∀ (A B : List (Int × Int)) (p : Int), Abv p (A ++ B) ↔ Abv p A ∧ Abv (endOf p A) B
  | [], B, p => by simp [Abv, endOf]
  | a :: A, B, p => by
    simp only [List.cons_append, Abv, endOf, abv_append A B (a.1 + a.2)]
    constructor
    · rintro ⟨h1, h2, h3, h4⟩; exact ⟨⟨h1, h2, h3⟩, h4⟩
    · rintro ⟨⟨h1, h2, h3⟩, h4⟩; exact ⟨h1, h2, h3, h4⟩
theorem merged_in {x y : Int × Int} (h1 : x.1 ≤ y.1) (h2 : y.1 ≤ x.1 + x.2) (hy : 0 ≤ y.2) (hx : 0 ≤ x.2) (z : Int) : In (merged x y) z ↔ In x z ∨ In y z := by
  unfold In merged
  simp only
  split <;> omega
theorem merged_pos {x y : Int × Int} (hx : 1 ≤ x.2) (h1 : x.1 ≤ y.1) (hy : 1 ≤ y.2) : 1 ≤ (merged x y).2 := by
  unfold merged; simp only; split <;> omega
theorem merged_fst (x y : Int × Int) : (merged x y).1 = x.1 := rfl
theorem absorb_law : ∀ (B : List (Int × Int)) (x : Int × Int) (p : Int), p < x.1 → 1 ≤ x.2 → Abv x.1 B → Abv p (absorb x B) ∧ ∀ z, Has (absorb x B) z ↔ In x z ∨ Has B z
  | [], x, p, h1, h2, _ => ⟨⟨h1, h2, trivial⟩, fun z => by simp [absorb, Has]⟩
  | y :: ys, x, p, h1, h2, ⟨k1, k2, k3⟩ => by
    unfold absorb
    cases ht : touches x y with
    | false =>
      have ht' := of_decide_eq_false ht
      simp only [Bool.false_eq_true, if_false]
      exact ⟨⟨h1, h2, by omega, k2, k3⟩, fun z => by simp [Has]⟩
    | true =>
      have ht' := of_decide_eq_true ht
      simp only [if_true]
      obtain ⟨i1, i2⟩ := absorb_law ys (merged x y) p (by rw [merged_fst]; exact h1) (merged_pos h2 (by omega) k2) (k3.mono (by rw [merged_fst]; omega))
      refine ⟨i1, fun z => ?_⟩
      rw [i2, merged_in (by omega) ht' (by omega) (by omega)]
      simp only [Has]
      exact or_assoc

theorem srch_split (L : List (Int × Int)) (p : Int) : ∃ A B, L = A ++ B ∧ srch L p = A.length ∧ (∀ a ∈ A, a.1 < p) ∧ (∀ b ∈ B.head?, p ≤ b.1) := by
  refine ⟨L.takeWhile fun x => decide (x.1 < p), L.dropWhile fun x => decide (x.1 < p), List.takeWhile_append_dropWhile.symm, rfl, ?_, ?_⟩
  · induction L with
    | nil => simp
    | cons x L ih =>
      intro a ha
      rw [List.takeWhile_cons] at ha
      split at ha
      · rename_i hx
        rcases List.mem_cons.1 ha with rfl | h
        · exact of_decide_eq_true hx
        · exact ih a h
      · simp at ha
  · intro b hb
    have := List.head?_dropWhile_not (fun x : Int × Int => decide (x.1 < p)) L
    rw [hb] at this
    simp at this
    omega

/-- where x stands behind A, what coalescing makes -/
theorem coal_law (A B : List (Int × Int)) (x : Int × Int) (p : Int) (hA : Abv p A) (hp : p < x.1) (hx : 1 ≤ x.2) (hB : Abv x.1 B) (hl : ∀ a ∈ A, a.1 < x.1) :
    Abv p (coalP (A ++ x :: B) A.length) ∧ ∀ z, Has (coalP (A ++ x :: B) A.length) z ↔ Has A z ∨ In x z ∨ Has B z := by
  rcases List.eq_nil_or_concat A with rfl | ⟨A0, a, rfl⟩
  · simp only [List.nil_append, List.length_nil, coalP_first]
    obtain ⟨i1, i2⟩ := absorb_law B x p hp hx hB
    exact ⟨i1, fun z => by rw [i2]; simp [Has]⟩
  · simp only [List.concat_eq_append] at *
    have e : (A0 ++ [a]).length = A0.length + 1 := by simp
    rw [e, coalP_mid]
    obtain ⟨hA0, ha1, ha2, -⟩ := (abv_append A0 [a] p).1 hA
    have hax := hl a (by simp)
    cases ht : touches a x with
    | false =>
      have ht' := of_decide_eq_false ht
      simp only [Bool.false_eq_true, if_false]
      obtain ⟨i1, i2⟩ := absorb_law B x (a.1 + a.2) (by omega) hx hB
      refine ⟨(abv_append _ _ _).2 ⟨hA0, ha1, ha2, i1⟩, fun z => ?_⟩
      simp only [has_append, Has, i2, or_false, or_assoc]
    | true =>
      have ht' := of_decide_eq_true ht
      simp only [if_true]
      obtain ⟨i1, i2⟩ := absorb_law B (merged a x) (endOf p A0) ha1 (merged_pos ha2 (by omega) hx) (hB.mono (by rw [merged_fst]; omega))
      refine ⟨(abv_append _ _ _).2 ⟨hA0, i1⟩, fun z => ?_⟩
      rw [has_append, i2, merged_in (by omega) ht' (by omega) (by omega)]
      simp only [has_append, Has, or_false, or_assoc]
/-- Insertion: the set stays a set, and has the bytes of the range beside its own. -/
theorem insP_law (L : List (Int × Int)) (r : Int × Int) (p : Int) (hL : Abv p L) (hp : p < r.1) :
    Abv p (insP L r) ∧ ∀ z, Has (insP L r) z ↔ Has L z ∨ In r z := by
  unfold insP
  by_cases h0 : r.2 ≤ 0
  · rw [if_pos h0]
    refine ⟨hL, fun z => ⟨.inl, ?_⟩⟩
    rintro (h | h)
    · exact h
    · unfold In at h; omega
  · rw [if_neg h0]
    by_cases hn : L.length = 0
    · rw [if_pos hn]
      obtain rfl := List.length_eq_zero_iff.1 hn
      exact ⟨⟨hp, by omega, trivial⟩, fun z => by simp [Has]⟩
    · rw [if_neg hn]
      obtain ⟨A, B, rfl, hs, hlt, hge⟩ := srch_split L r.1
      rw [hs]
      obtain ⟨hA, hB⟩ := (abv_append A B p).1 hL
      cases B with
      | nil =>
        rw [if_pos (.inl (by simp))]
        simp only [List.append_nil, List.take_length, List.drop_length]
        obtain ⟨i1, i2⟩ := coal_law A [] r p hA hp (by omega) trivial hlt
        exact ⟨i1, fun z => by rw [i2]; simp [Has]⟩
      | cons b bs =>
        obtain ⟨hb1, hb2, hb3⟩ := hB
        have hrb : r.1 ≤ b.1 := hge b rfl
        have e1 : at_ (A ++ b :: bs) A.length = b := at_mid A b bs
        rw [e1]
        cases ht : touches r b with
        | false =>
          have ht' := of_decide_eq_false ht
          rw [if_pos (.inr rfl)]
          simp only [List.take_left', List.drop_left']
          obtain ⟨i1, i2⟩ := coal_law A (b :: bs) r p hA hp (by omega) ⟨by omega, hb2, hb3⟩ hlt
          refine ⟨i1, fun z => ?_⟩
          rw [i2, has_append]
          simp only [or_assoc, or_left_comm, or_comm]
        | true =>
          have ht' := of_decide_eq_true ht
          rw [if_neg (by simp)]
          have e2 : (A ++ b :: bs).set A.length (merged r b) = A ++ merged r b :: bs := by simp [List.set_append]
          rw [e2]
          obtain ⟨i1, i2⟩ := coal_law A bs (merged r b) p hA (by rw [merged_fst]; exact hp) (merged_pos (by omega) hrb hb2) (hb3.mono (by rw [merged_fst]; omega)) (fun a ha => by rw [merged_fst]; exact hlt a ha)
          refine ⟨i1, fun z => ?_⟩
          rw [i2, merged_in hrb ht' (by omega) (by omega), has_append]
          simp only [Has, or_assoc, or_left_comm, or_comm]
/-- Two sets of the same bytes are the same. -/
theorem abv_ext : ∀ (L M : List (Int × Int)) (p q : Int), Abv p L → Abv q M → (∀ z, Has L z ↔ Has M z) → L = M
  | [], [], _, _, _, _, _ => rfl
  | [], y :: M, _, _, _, ⟨h1, h2, h3⟩, h => ((h y.1).2 (.inl ⟨by omega, by omega⟩)).elim
  | x :: L, [], _, _, ⟨h1, h2, h3⟩, _, h => ((h x.1).1 (.inl ⟨by omega, by omega⟩)).elim
  | x :: L, y :: M, p, q, ⟨h1, h2, h3⟩, ⟨k1, k2, k3⟩, h => by
    have hx : Has (x :: L) x.1 := .inl ⟨by omega, by omega⟩
    have hy : Has (y :: M) y.1 := .inl ⟨by omega, by omega⟩
    have a1 : y.1 ≤ x.1 := by
      rcases (h x.1).1 hx with ⟨a, _⟩ | a
      · exact a
      · have := k3.lt a; omega
    have a2 : x.1 ≤ y.1 := by
      rcases (h y.1).2 hy with ⟨a, _⟩ | a
      · exact a
      · have := h3.lt a; omega
    have ex : ¬ Has (x :: L) (x.1 + x.2) := by
      rintro (⟨_, a⟩ | a)
      · omega
      · have := h3.lt a; omega
    have ey : ¬ Has (y :: M) (y.1 + y.2) := by
      rintro (⟨_, a⟩ | a)
      · omega
      · have := k3.lt a; omega
    have b1 : y.1 + y.2 ≤ x.1 + x.2 := by
      rcases Int.lt_or_le (x.1 + x.2) (y.1 + y.2) with hlt | hle
      · exact (ex ((h _).2 (.inl ⟨by omega, hlt⟩))).elim
      · exact hle
    have b2 : x.1 + x.2 ≤ y.1 + y.2 := by
      rcases Int.lt_or_le (y.1 + y.2) (x.1 + x.2) with hlt | hle
      · exact (ey ((h _).1 (.inl ⟨by omega, hlt⟩))).elim
      · exact hle
    have exy : x = y := Prod.ext (by omega) (by omega)
    subst exy
    refine congrArg _ (abv_ext L M _ _ h3 k3 fun z => ?_)
    constructor
    · intro hz
      rcases (h z).1 (.inr hz) with ⟨_, a⟩ | a
      · have := h3.lt hz; omega
      · exact a
    · intro hz
      rcases (h z).2 (.inr hz) with ⟨_, a⟩ | a
      · have := k3.lt hz; omega
      · exact a

/-- A range that a set may hold: near enough, not empty. -/
def Good (r : Int × Int) : Prop := -4398046511104 ≤ r.1 ∧ r.1 ≤ 4398046511104 ∧ 1 ≤ r.2 ∧ r.1 + r.2 ≤ 8796093022208
/-- near enough for sums to fit -/
def Near (r : Int × Int) : Prop := -17592186044416 ≤ r.1 ∧ r.1 ≤ 17592186044416 ∧ -17592186044416 ≤ r.2 ∧ r.2 ≤ 17592186044416
theorem Good.near {r : Int × Int} (h : Good r) : Near r := by obtain ⟨h1, h2, h3, h4⟩ := h; exact ⟨by omega, by omega, by omega, by omega⟩
theorem Good.merged {n d : Int × Int} (hn : Good n) (hd : Good d) : Good (merged n d) := by
  obtain ⟨h1, h2, h3, h4⟩ := hn
  obtain ⟨k1, k2, k3, k4⟩ := hd
  unfold Given.merged
  split
  · exact ⟨h1, h2, h3, h4⟩
  · exact ⟨h1, h2, by simp only; omega, by simp only; omega⟩
theorem joinAt_good {L : List (Int × Int)} {i : Nat} (h : i + 1 < L.length) (hL : ∀ r ∈ L, Good r) : ∀ r ∈ joinAt L i, Good r := by
  intro r hr
  rcases List.mem_or_eq_of_mem_set hr with h' | rfl
  · exact hL r h'
  · rw [at_eq (by omega), at_eq h]
    exact (hL _ (List.getElem_mem _)).merged (hL _ (List.getElem_mem _))
end Go.Proofs.Ytmkhkkfliecfdaa.Given
