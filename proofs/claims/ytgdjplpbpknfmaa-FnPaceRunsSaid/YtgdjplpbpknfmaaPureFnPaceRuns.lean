/- FnPaceRuns: call by call, each time to sleep follows from the last one; within the law's own bounds, no other conditions. -/
import Derived.Test.YtgdjplpbpknfmaaPRx3
import Derived.Test.YtgdjplpbpknfmaaRunPure
namespace Go.Proofs.Ytgdjplpbpknfmaa.Pure
open Go.RowKit Go.Proofs.Ytgdjplpbpknfmaa.PureR Go.Proofs.Ytgdjplpbpknfmaa.PR Go.Proofs.YtgdjplpbpknfmaaW.PrintWords Go.Proofs.YtgdjplpbpknfmaaW.PrintLast Go.Proofs.Ytgdjplpbpknfmaa.Pl Go.Proofs.Ytgdjplpbpknfmaa.Given
set_option linter.unusedVariables false


theorem loop_is (q : Bool) (a b c d : Int) (l3 : List Bool) (l4 xs : List Int) (ha : a < 1099511627776) (hb : b < 1099511627776) (hc : c ≤ 16) (hd : d ≤ 16) (h4 : l3.length = l4.length) (hx : xs.length = l3.length) (hl : l3.length ≤ 200) (h9 : ∀ t ∈ l4, t < 1099511627776) :
    ∀ (m i : Nat) (s r : Int) (K : Nat), m + 30 ≤ K → i + m = l3.length → 0 ≤ s → s < 1099511627776 → 0 ≤ r → r ≤ i → xs.drop i = wants q a b c d (l3.drop i) (l4.drop i) s r → laws_FnPaceRuns.l1 K q s l4 xs r l3 (l3.length : Int) (i : Int) a b c d = some true
  | 0, i, s, r, K, hK, h, _, _, _, _, _ => by
    obtain ⟨K, rfl⟩ : ∃ q, K = q + 1 := ⟨K - 1, by omega⟩
    simp only [laws_FnPaceRuns.l1]
    rw [if_neg (by omega)]
  | m + 1, i, s, r, K, hK, h, hs0, hs1, hr0, hr1, hd' => by
    obtain ⟨K, rfl⟩ : ∃ q, K = q + 1 := ⟨K - 1, by omega⟩
    have i3 : i < l3.length := by omega
    have i4 : i < l4.length := by omega
    have ix : i < xs.length := by omega
    rw [List.drop_eq_getElem_cons i3, List.drop_eq_getElem_cons i4, List.drop_eq_getElem_cons ix] at hd'
    unfold wants runs at hd'
    have c0 : (i : Int) < (l3.length : Int) := by omega
    have c1 : (0 : Int) ≤ (i : Int) := by omega
    have c2 : (i : Int) < (xs.length : Int) := by omega
    have c3 : (i : Int) < (l4.length : Int) := by omega
    have c4 : (0 : Int) ≤ r + 1 := by omega
    have c5 : 0 ≤ r := hr0
    have c6 : m + 30 ≤ K := by omega
    have c7 : i + 1 + m = l3.length := by omega
    have c8 : r + 1 ≤ ((i + 1 : Nat) : Int) := by omega
    have c9 : (0 : Int) ≤ ((i + 1 : Nat) : Int) := by omega
    have d1 : -9223372036854775808 ≤ (i : Int) + 1 := by omega
    have d2 : (i : Int) + 1 ≤ 9223372036854775807 := by omega
    have d3 : -9223372036854775808 ≤ r + 1 := by omega
    have d4 : r + 1 ≤ 9223372036854775807 := by omega
    have d5 : 20 < K := by omega
    have hb4 := h9 _ (List.getElem_mem i4)
    have n1 := next_is q a b c d s 0 (-1) 0 hc hd hs0 hs1 (Int.le_refl 0) K d5
    have n2 := next_is q a b c d s (r + 1) l4[i] 0 hc hd hs0 hs1 c4 K d5
    have w1 := want_bnd q a b c d s 0 (-1) ha hb hc hd hs0 hs1 (Int.le_refl 0) (by decide)
    have w2 := want_bnd q a b c d s (r + 1) l4[i] ha hb hc hd hs0 hs1 c4 hb4
    have r3 : rdOf false l3 (i : Int) = l3[i] := by simp [rdOf, i3]
    have r4 : rd l4 (i : Int) = l4[i] := by simp [rd, i4]
    have rx : rd xs (i : Int) = xs[i] := by simp [rd, ix]
    have hw : wrap64 ((i : Int) + 1) = ((i + 1 : Nat) : Int) := by rw [wrap64_id d1 d2]; exact (Int.natCast_succ i).symm
    have hw2 : wrap64 (r + 1) = r + 1 := wrap64_id d3 d4
    obtain ⟨e1, e2⟩ := List.cons.inj hd'
    rw [stp_want] at e1 e2
    simp only [laws_FnPaceRuns.l1]
    rw [if_pos c0, if_pos c1, if_pos c0, r3, r4, rx, hw, hw2]
    generalize hg : l3[i] = g at *
    cases g with
    | true =>
      rw [if_pos rfl, n1]
      simp only [Option.bind_some]
      simp only [if_true] at e1 e2
      rw [if_pos c2, e1, if_pos rfl]
      exact loop_is q a b c d l3 l4 xs ha hb hc hd h4 hx hl h9 m (i + 1) _ 0 K c6 c7 w1.1 w1.2 (Int.le_refl 0) c9 e2
    | false =>
      rw [if_neg (by decide), if_pos c3, n2]
      simp only [Option.bind_some]
      simp only [Bool.false_eq_true, if_false] at e1 e2
      rw [if_pos c2, e1, if_pos rfl]
      exact loop_is q a b c d l3 l4 xs ha hb hc hd h4 hx hl h9 m (i + 1) _ (r + 1) K c6 c7 w2.1 w2.2 c4 c8 e2

theorem rest_is (q : Bool) (a b c d s : Int) (l3 : List Bool) (l4 : List Int) (h4 : l3.length = l4.length) (hl : l3.length ≤ 200) (h9 : ∀ t ∈ l4, t < 1099511627776) (k : Nat) (hk : 300 ≤ k) :
    ((spec_PaceIn.f a b c d s 0 0 0).bind fun t124 => (if t124 = true then ((laws_paceRun.f a b c d q s l3 l4).bind fun bt125 => (if bt125.2 = true then ((laws_paceAwake.f).bind fun t129 => (laws_FnPaceRuns.j3 k q s l3 l4 bt125.1 (!t129) a b c d)) else (laws_FnPaceRuns.j3 k q s l3 l4 bt125.1 true a b c d))) else (some true))) = some true := by
  obtain ⟨p, hp⟩ := in_some a b c d s 0 0 0
  rw [hp]
  simp only [Option.bind_some]
  cases p with
  | false => rfl
  | true =>
    obtain ⟨h1, h2, h3, h5, h6, h7, -⟩ := in_true hp
    rw [if_pos rfl, paceRun_is q a b c d s l3 l4 h1 h2 h3 h5 h6 h7 h4 (by omega) h9]
    simp only [Option.bind_some, if_true]
    rw [awake_is]
    simp only [Option.bind_some]
    obtain ⟨k, rfl⟩ : ∃ q, k = q + 1 := ⟨k - 1, by omega⟩
    simp only [laws_FnPaceRuns.j3, Bool.not_true, Bool.false_eq_true, if_false]
    have hx : (wants q a b c d l3 l4 s 0).length = l3.length := runs_length _ _ _ _ _ l3 l4 s 0 h4
    exact loop_is q a b c d l3 l4 _ h1 h2 h3 h5 h4 hx hl h9 l3.length 0 s 0 k (by omega) (by omega) h6 h7 (by omega) (by omega) (by simp)

theorem check_is (q : Bool) (a b c d s : Int) (l3 : List Bool) (l4 : List Int) (h4 : l3.length = l4.length) (hl : l3.length ≤ 200) : ∀ (m i K : Nat), m + 301 ≤ K → i + m = l4.length → (∀ j < i, rd l4 (j : Int) < 1099511627776) →
    laws_FnPaceRuns.l0 K q s l3 l4 l4 (l4.length : Int) (i : Int) a b c d = some true
  | 0, i, K, hK, h, hi => by
    obtain ⟨K, rfl⟩ : ∃ q, K = q + 1 := ⟨K - 1, by omega⟩
    simp only [laws_FnPaceRuns.l0]
    rw [if_neg (by omega)]
    refine rest_is q a b c d s l3 l4 h4 hl ?_ K (by omega)
    intro t ht
    obtain ⟨j, hj, rfl⟩ := List.getElem_of_mem ht
    have := hi j (by omega)
    simpa [rd, hj] using this
  | m + 1, i, K, hK, h, hi => by
    obtain ⟨K, rfl⟩ : ∃ q, K = q + 1 := ⟨K - 1, by omega⟩
    simp only [laws_FnPaceRuns.l0]
    rw [if_pos (by omega), if_pos (by omega), if_pos (by omega)]
    by_cases hc : rd l4 (i : Int) ≥ 1099511627776
    · rw [if_pos hc]
    · rw [if_neg hc, wrap64_id (by omega) (by omega), show ((i : Int) + 1) = ((i + 1 : Nat) : Int) by omega]
      refine check_is q a b c d s l3 l4 h4 hl m (i + 1) K (by omega) (by omega) ?_
      intro j hj
      rcases Nat.lt_or_ge j i with h' | h'
      · exact hi j h'
      · obtain rfl : j = i := by omega
        omega

theorem FnPaceRuns : laws_FnPaceRuns.Pure := by
  intro a b c d q s l3 l4 _ _ _ _ _ _
  refine ⟨603, ?_⟩
  have j1 : laws_FnPaceRuns.j0 603 q s l3 l4 false a b c d = some true := by
    simp only [laws_FnPaceRuns.j0, Bool.false_eq_true, if_false]
    by_cases h1 : (l3.length : Int) > 200
    · rw [if_pos h1]; simp only [laws_FnPaceRuns.j1, if_true]
    · rw [if_neg h1]
      simp only [laws_FnPaceRuns.j1]
      by_cases h2 : (l4.length : Int) = (l3.length : Int)
      · rw [if_neg (by simp [h2])]
        exact check_is q a b c d s l3 l4 (by omega) (by omega) l4.length 0 _ (by omega) (by omega) (by omega)
      · rw [if_pos (by simp [h2])]
  unfold laws_FnPaceRuns.f
  have j2 : laws_FnPaceRuns.j0 603 q s l3 l4 true a b c d = some true := by simp only [laws_FnPaceRuns.j0, if_true]
  by_cases h1 : (l3.length : Int) > 2147483647
  · rw [if_pos h1, j2]
  · rw [if_neg h1]
    cases decide ((l4.length : Int) > 2147483647) with
    | true => exact j2
    | false => exact j1
end Go.Proofs.Ytgdjplpbpknfmaa.Pure
