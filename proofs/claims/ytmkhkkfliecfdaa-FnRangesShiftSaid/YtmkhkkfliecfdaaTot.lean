/- Plain facts on sorted, coalesced lists of ranges: how many places they have, counted. No program, no conditions beyond those that each states. -/
import Derived.Test.YtmkhkkfliecfdaaCut
set_option linter.unusedVariables false
set_option linter.unusedSimpArgs false
namespace Go.Proofs.Ytmkhkkfliecfdaa.Given

def tot : List (Int × Int) → Int
  | [] => 0
  | x :: xs => x.2 + tot xs
theorem tot_drop {L : List (Int × Int)} {i : Nat} (h : i < L.length) : tot (L.drop i) = L[i].2 + tot (L.drop (i + 1)) := by
  rw [List.drop_eq_getElem_cons h, tot]
theorem tot_bound : ∀ {L : List (Int × Int)}, (∀ x ∈ L, Good x) → 0 ≤ tot L ∧ tot L ≤ 17592186044416 * L.length
  | [], _ => by simp [tot]
  | x :: xs, h => by
    obtain ⟨h1, h2⟩ := tot_bound (L := xs) fun y hy => h y (List.mem_cons_of_mem _ hy)
    obtain ⟨g1, g2, g3, g4⟩ := h x (List.mem_cons_self ..)
    simp only [tot, List.length_cons]
    constructor
    · omega
    · push_cast; omega
/-- a sum over n places from a on -/
def Sum (f : Int → Int) (a : Int) : Nat → Int
  | 0 => 0
  | n + 1 => Sum f a n + f (a + n)
theorem Sum.congr {f g : Int → Int} (h : ∀ z, f z = g z) (a : Int) : ∀ n, Sum f a n = Sum g a n
  | 0 => rfl
  | n + 1 => by rw [Sum, Sum, Sum.congr h a n, h]
theorem Sum.add (f g : Int → Int) (a : Int) : ∀ n, Sum (fun z => f z + g z) a n = Sum f a n + Sum g a n
  | 0 => rfl
  | n + 1 => by rw [Sum, Sum, Sum, Sum.add f g a n]; omega
theorem Sum.sub (f g : Int → Int) (a : Int) : ∀ n, Sum (fun z => f z - g z) a n = Sum f a n - Sum g a n
  | 0 => rfl
  | n + 1 => by rw [Sum, Sum, Sum, Sum.sub f g a n]; omega
theorem Sum.zero (a : Int) : ∀ n, Sum (fun _ => 0) a n = 0
  | 0 => rfl
  | n + 1 => by rw [Sum, Sum.zero a n]; rfl
def one (x : Int × Int) (z : Int) : Int := if x.1 ≤ z ∧ z < x.1 + x.2 then 1 else 0
def ind (L : List (Int × Int)) (z : Int) : Int := if (L.any fun x => decide (x.1 ≤ z ∧ z < x.1 + x.2)) = true then 1 else 0
theorem any_has : ∀ (L : List (Int × Int)) (z : Int), (L.any fun x => decide (x.1 ≤ z ∧ z < x.1 + x.2)) = true ↔ Has L z
  | [], z => by simp [Has]
  | x :: xs, z => by
    rw [List.any_cons, Bool.or_eq_true, any_has xs z, decide_eq_true_iff]
    rfl
theorem ind_pos {L : List (Int × Int)} {z : Int} (h : Has L z) : ind L z = 1 := if_pos ((any_has L z).2 h)
theorem ind_neg {L : List (Int × Int)} {z : Int} (h : ¬ Has L z) : ind L z = 0 := if_neg (fun k => h ((any_has L z).1 k))
theorem one_pos {x : Int × Int} {z : Int} (h : In x z) : one x z = 1 := if_pos h
theorem one_neg {x : Int × Int} {z : Int} (h : ¬ In x z) : one x z = 0 := if_neg h
theorem sum_one (x : Int × Int) (h2 : 1 ≤ x.2) (a : Int) (ha : a ≤ x.1) : ∀ n : Nat, Sum (one x) a n = if a + n ≤ x.1 then 0 else if a + n ≤ x.1 + x.2 then a + n - x.1 else x.2
  | 0 => by rw [Sum, if_pos (by omega)]
  | n + 1 => by
    rw [Sum, sum_one x h2 a ha n]
    unfold one
    push_cast
    split <;> split <;> (try split) <;> (try split) <;> (try split) <;> omega
theorem ind_cons {x : Int × Int} {xs : List (Int × Int)} (h : Abv (x.1 + x.2) xs) (z : Int) : ind (x :: xs) z = one x z + ind xs z := by
  by_cases h1 : In x z
  · have h2 : ¬ Has xs z := fun k => by have := h.lt k; unfold In at h1; omega
    rw [ind_pos (show Has (x :: xs) z from .inl h1), one_pos h1, ind_neg h2]; rfl
  · by_cases h2 : Has xs z
    · rw [ind_pos (show Has (x :: xs) z from .inr h2), one_neg h1, ind_pos h2]; rfl
    · rw [ind_neg (show ¬ Has (x :: xs) z from fun k => k.elim h1 h2), one_neg h1, ind_neg h2]; rfl
theorem sum_tot (a : Int) (n : Nat) : ∀ (L : List (Int × Int)) (p : Int), Abv p L → a ≤ p + 1 → (∀ x ∈ L, x.1 + x.2 ≤ a + n) → Sum (ind L) a n = tot L
  | [], p, _, _, _ => by
    rw [tot]
    exact (Sum.congr (g := fun _ => 0) (fun z => ind_neg (by simp [Has])) a n).trans (Sum.zero a n)
  | x :: xs, p, ⟨h1, h2, h3⟩, ha, hb => by
    rw [Sum.congr (ind_cons h3) a n, Sum.add, sum_tot a n xs _ h3 (by omega) (fun y hy => hb y (List.mem_cons_of_mem _ hy)), sum_one x h2 a (by omega) n, tot]
    have := hb x (List.mem_cons_self ..)
    congr 1
    split
    · omega
    · split <;> omega
theorem sum_cut (a : Int) (n : Nat) (A : List (Int × Int)) (p : Int) (hA : Abv p A) (ha : a ≤ p + 1) (hn : ∀ x ∈ A, x.1 + x.2 ≤ a + n) (r : Int × Int) : Sum (fun z => ind A z * one r z) a n = tot (cutS A r) := by
  rw [← sum_tot a n (cutS A r) p (cutS_abv A r p hA) ha fun y hy => by
    obtain ⟨x, hx, rfl, _⟩ := cutS_mem hy
    have := (clip_le x r).2.1
    have := hn x hx
    omega]
  refine Sum.congr (fun z => ?_) a n
  have hc := cutS_has A r z
  by_cases h1 : Has A z <;> by_cases h2 : In r z
  · rw [ind_pos (hc.2 ⟨h1, h2⟩), ind_pos h1, one_pos h2]; rfl
  · rw [ind_neg (fun k => h2 (hc.1 k).2), one_neg h2, Int.mul_zero]
  · rw [ind_neg (fun k => h1 (hc.1 k).1), ind_neg h1, Int.zero_mul]
  · rw [ind_neg (fun k => h1 (hc.1 k).1), ind_neg h1, Int.zero_mul]
/-- what two sets share -/
def share (A : List (Int × Int)) : List (Int × Int) → Int
  | [] => 0
  | r :: rs => tot (cutS A r) + share A rs
theorem share_drop {A B : List (Int × Int)} {i : Nat} (h : i < B.length) : share A (B.drop i) = tot (cutS A B[i]) + share A (B.drop (i + 1)) := by
  rw [List.drop_eq_getElem_cons h, share]
theorem sum_share (a : Int) (n : Nat) (A : List (Int × Int)) (p : Int) (hA : Abv p A) (ha : a ≤ p + 1) (hn : ∀ x ∈ A, x.1 + x.2 ≤ a + n) :
    ∀ (B : List (Int × Int)) (q : Int), Abv q B → Sum (fun z => ind A z * ind B z) a n = share A B
  | [], q, _ => by
    rw [share]
    exact (Sum.congr (g := fun _ => 0) (fun z => by rw [ind_neg (L := []) (by simp [Has]), Int.mul_zero]) a n).trans (Sum.zero a n)
  | r :: rs, q, ⟨h1, h2, h3⟩ => by
    rw [share, ← sum_cut a n A p hA ha hn r, ← sum_share a n A p hA ha hn rs _ h3, ← Sum.add]
    exact Sum.congr (fun z => by rw [ind_cons h3, Int.mul_add]) a n
theorem tot_union {A B U : List (Int × Int)} (hA : Abv (-4398046511105) A) (hB : Abv (-4398046511105) B) (hU : Abv (-4398046511105) U) (gA : ∀ x ∈ A, Good x) (gB : ∀ x ∈ B, Good x) (gU : ∀ x ∈ U, Good x)
    (h : ∀ z, Has U z ↔ Has A z ∨ Has B z) : tot U = tot A + tot B - share A B := by
  obtain ⟨a, ha⟩ : ∃ a : Int, a = -4398046511104 := ⟨_, rfl⟩
  obtain ⟨n, hn⟩ : ∃ n : Nat, (n : Int) = 13194139533312 := ⟨13194139533312, rfl⟩
  have bA : ∀ x ∈ A, x.1 + x.2 ≤ a + n := fun x hx => by have := (gA x hx).2.2.2; omega
  have bB : ∀ x ∈ B, x.1 + x.2 ≤ a + n := fun x hx => by have := (gB x hx).2.2.2; omega
  have bU : ∀ x ∈ U, x.1 + x.2 ≤ a + n := fun x hx => by have := (gU x hx).2.2.2; omega
  rw [← sum_tot a n A _ hA (by omega) bA, ← sum_tot a n B _ hB (by omega) bB, ← sum_tot a n U _ hU (by omega) bU, ← sum_share a n A _ hA (by omega) bA B _ hB, ← Sum.add, ← Sum.sub]
  refine Sum.congr (fun z => ?_) a n
  have hz := h z
  by_cases h1 : Has A z <;> by_cases h2 : Has B z
  · rw [ind_pos (hz.2 (.inl h1)), ind_pos h1, ind_pos h2]; rfl
  · rw [ind_pos (hz.2 (.inl h1)), ind_pos h1, ind_neg h2]; rfl
  · rw [ind_pos (hz.2 (.inr h2)), ind_neg h1, ind_pos h2]; rfl
  · rw [ind_neg (fun k => (hz.1 k).elim h1 h2), ind_neg h1, ind_neg h2]; rfl
end Go.Proofs.Ytmkhkkfliecfdaa.Given
