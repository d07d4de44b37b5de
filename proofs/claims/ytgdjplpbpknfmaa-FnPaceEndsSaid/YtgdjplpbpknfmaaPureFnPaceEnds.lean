/- FnPaceEnds: behind many retries the greatest time, behind many successes the least one; within the law's own bounds, no other conditions. -/
import Derived.Test.YtgdjplpbpknfmaaPRx4
import Derived.Test.YtgdjplpbpknfmaaRunPure
namespace Go.Proofs.Ytgdjplpbpknfmaa.PureE
open Go.RowKit Go.Proofs.Ytgdjplpbpknfmaa.PureR Go.Proofs.Ytgdjplpbpknfmaa.PR Go.Proofs.YtgdjplpbpknfmaaW.PrintWords Go.Proofs.YtgdjplpbpknfmaaW.PrintLast Go.Proofs.Ytgdjplpbpknfmaa.Pl Go.Proofs.Ytgdjplpbpknfmaa.Given
set_option linter.unusedVariables false

def low : Nat → Nat
  | 0 => 1099511627776
  | n + 1 => low n * 3 / 4
theorem low_zero : ∀ n, 120 ≤ n → low n = 0 := by
  intro n hn
  induction n with
  | zero => omega
  | succ n ih =>
    rcases Nat.lt_or_ge n 120 with h | h
    · obtain rfl : n = 119 := by omega
      decide +kernel
    · show low n * 3 / 4 = 0
      rw [ih h]

theorem dec_low (s d : Int) (hd0 : 0 ≤ d) (hd : d ≤ 2) (hs : 0 ≤ s) (hs' : s < 1099511627776) : 0 ≤ decay s d ∧ decay s d ≤ s * 3 / 4 := by
  have hc : d = 0 ∨ d = 1 ∨ d = 2 := by omega
  unfold decay
  rcases hc with rfl | rfl | rfl
  · rw [show (2 : Int) ^ (0 : Int).toNat = 1 by decide, wrap64_id (x := s * 1) (by omega) (by omega), wrap64_id (by omega) (by omega)]; omega
  · rw [show (2 : Int) ^ (1 : Int).toNat = 2 by decide, wrap64_id (x := s * 2) (by omega) (by omega), wrap64_id (by omega) (by omega)]; omega
  · rw [show (2 : Int) ^ (2 : Int).toNat = 4 by decide, wrap64_id (x := s * 4) (by omega) (by omega), wrap64_id (by omega) (by omega)]; omega
theorem att_one (s : Int) (hs : 0 ≤ s) (hs' : s < 1099511627776) : attack s 1 = s * 2 := by
  unfold attack
  rw [show (2 : Int) ^ (1 : Int).toNat = 2 by decide, show (2 : Int) - 1 = 1 by decide, Int.tdiv_one, wrap64_id (by omega) (by omega)]

theorem step_up (q : Bool) (M X D A s r : Int) (i : Nat) (hM : 0 ≤ M) (hMX : M ≤ X) (hA0 : 0 ≤ A) (hA : A ≤ 1) (hs : 0 ≤ s) (hs' : s < 1099511627776) (hr : 0 < r) (h : s = X ∨ (2 : Int) ^ i ≤ s) :
    (if q then s3calc else dfcalc) M X D A s r = X ∨ (2 : Int) ^ (i + 1) ≤ (if q then s3calc else dfcalc) M X D A s r := by
  have hp : (2 : Int) ^ (i + 1) = 2 ^ i * 2 := Int.pow_succ 2 i
  have hp0 : 0 < (2 : Int) ^ i := Int.pow_pos (by decide)
  have hc : A = 0 ∨ A = 1 := by omega
  rcases hc with rfl | rfl
  · left
    cases q <;> simp [s3calc, dfcalc, hr]
  · cases q with
    | true =>
      simp only [if_true, s3calc]
      rw [if_pos hr, if_neg (by decide), att_one s hs hs']
      split
      · left; omega
      · split
        · omega
        · left; rfl
    | false =>
      simp only [Bool.false_eq_true, if_false, dfcalc]
      rw [if_pos hr, if_neg (by decide), att_one s hs hs']
      split
      · left; rfl
      · omega
theorem step_down (q : Bool) (M X D A s : Int) (hM : 0 ≤ M) (hD0 : 0 ≤ D) (hD : D ≤ 2) (hs : 0 ≤ s) (hs' : s < 1099511627776) :
    (if q then 0 else M) ≤ (if q then s3calc else dfcalc) M X D A s 0 ∧ (if q then s3calc else dfcalc) M X D A s 0 ≤ max (if q then 0 else M) (s * 3 / 4) := by
  obtain ⟨h0, h1⟩ := dec_low s D hD0 hD hs hs'
  cases q with
  | true =>
    simp only [if_true, s3calc]
    rw [if_neg (by decide)]
    split <;> omega
  | false =>
    simp only [Bool.false_eq_true, if_false, dfcalc]
    rw [if_neg (by decide)]
    split <;> omega

/-- What holds before each call and of each answer. -/
theorem runs_inv (kk : Int → Int → Int → Int → Int → Int → Int) (mn mx d a : Int) (Inv : Nat → Int → Int → Prop) (Q : Nat → Int → Prop) : ∀ (l3 : List Bool) (l4 : List Int) (i : Nat) (s r : Int), l3.length = l4.length → Inv i s r →
    (∀ j s r, i ≤ j → (h3 : j - i < l3.length) → (h4 : j - i < l4.length) → Inv j s r → Inv (j + 1) (stp kk mn mx d a s r l3[j - i] l4[j - i]).1 (stp kk mn mx d a s r l3[j - i] l4[j - i]).2 ∧ Q j (stp kk mn mx d a s r l3[j - i] l4[j - i]).1) →
    ∀ j (hj : j < (runs kk mn mx d a l3 l4 s r).length), Q (i + j) (runs kk mn mx d a l3 l4 s r)[j]
  | [], _, _, _, _, _, _, _, j, hj => by simp [runs] at hj
  | g :: gs, [], _, _, _, h, _, _, _, _ => by simp at h
  | g :: gs, t :: ts, i, s, r, h, h0, hstep, j, hj => by
    have h1 := hstep i s r (Nat.le_refl _) (by simp) (by simp) h0
    simp only [Nat.sub_self, List.getElem_cons_zero] at h1
    cases j with
    | zero => simpa [runs] using h1.2
    | succ j =>
      simp only [runs, List.getElem_cons_succ]
      rw [show i + (j + 1) = (i + 1) + j by omega]
      refine runs_inv kk mn mx d a Inv Q gs ts (i + 1) _ _ (by simpa using h) h1.1 ?_ j _
      intro j' s' r' hij h3 h4 hI
      have e : j' - i = (j' - (i + 1)) + 1 := by omega
      have := hstep j' s' r' (by omega) (by simp only [List.length_cons]; omega) (by simp only [List.length_cons]; omega) hI
      simp only [e, List.getElem_cons_succ] at this
      exact this

def goods (n : Nat) : List Bool := (List.range n).map fun j : Nat => decide ((j : Int) ≥ 50)
theorem goods_length (n : Nat) : (goods n).length = n := by simp [goods]
theorem goods_succ (n : Nat) : goods (n + 1) = goods n ++ [decide ((n : Int) ≥ 50)] := by simp [goods, List.range_succ]

def afters (n : Nat) : List Int := List.replicate n (-1)
theorem afters_length (n : Nat) : (afters n).length = n := by simp [afters]
theorem afters_succ (n : Nat) : afters (n + 1) = afters n ++ [-1] := by unfold afters; rw [List.replicate_succ']
theorem afters_get (n j : Nat) (h : j < (afters n).length) : (afters n)[j] = -1 := by simp [afters]
theorem goods_get (n j : Nat) (h : j < (goods n).length) : (goods n)[j] = decide ((j : Int) ≥ 50) := by simp [goods]

def Inv (L X : Int) (i : Nat) (s r : Int) : Prop :=
  0 ≤ s ∧ s < 1099511627776 ∧ 0 ≤ r ∧ (i ≤ 50 → s = X ∨ (2 : Int) ^ i ≤ s) ∧ (50 ≤ i → s ≤ max L (low (i - 50) : Int))
def Q (L X : Int) (i : Nat) (y : Int) : Prop := (45 ≤ i → i < 50 → y = X) ∧ (205 ≤ i → y = L)

theorem ends (q : Bool) (a b c d s : Int) (ha : a < 1099511627776) (hb : b < 1099511627776) (hc : c ≤ 16) (hd : d ≤ 16) (hs1 : 1 ≤ s) (hs' : s < 1099511627776)
    (hMX : gv a (if q then 0 else 10000000) ≤ gv b 2000000000) (hA : gv d 1 ≤ 1) (hD : gv c 2 ≤ 2) (L : Int) (hL : L = if q then 0 else gv a (if q then 0 else 10000000)) :
    ∀ j (hj : j < (wants q a b c d (goods 220) (afters 220) s 0).length), Q L (gv b 2000000000) j (wants q a b c d (goods 220) (afters 220) s 0)[j] := by
  intro j hj
  have hM : 0 ≤ gv a (if q then 0 else 10000000) := gv_lo (by cases q <;> decide)
  have hA0 : 0 ≤ gv d 1 := gv_lo (by decide)
  have hD0 : 0 ≤ gv c 2 := gv_lo (by decide)
  have hL0 : 0 ≤ L := by rw [hL]; cases q <;> simp at hM ⊢ <;> exact hM
  have key := runs_inv (if q then s3calc else dfcalc) (gv a (if q then 0 else 10000000)) (gv b 2000000000) (gv c 2) (gv d 1) (Inv L (gv b 2000000000)) (Q L (gv b 2000000000)) (goods 220) (afters 220) 0 s 0 (by rw [goods_length, afters_length]) ⟨by omega, hs', by omega, fun _ => .inr (by rw [Int.pow_zero]; exact hs1), by omega⟩ ?_ j hj
  · rw [Nat.zero_add] at key
    exact key
  · clear hj j
    intro j t r _ h3 h4 ⟨i0, i1, i2, i3, i4⟩
    rw [goods_length] at h3
    rw [goods_get, afters_get]
    have hw := want_bnd q a b c d t (if decide (((j - 0 : Nat) : Int) ≥ 50) = true then 0 else r + 1) (-1) ha hb hc hd i0 i1 (by split <;> omega) (by decide)
    rw [stp_want, show (if decide (((j - 0 : Nat) : Int) ≥ 50) = true then (-1 : Int) else -1) = -1 by split <;> rfl]
    have e2 : (stp (if q = true then s3calc else dfcalc) (gv a (if q = true then 0 else 10000000)) (gv b 2000000000) (gv c 2) (gv d 1) t r (decide (((j - 0 : Nat) : Int) ≥ 50)) (-1)).2 = if decide (((j - 0 : Nat) : Int) ≥ 50) = true then 0 else r + 1 := rfl
    rw [e2]
    have ew : ∀ r', want q a b c d t r' (-1) 0 = (if q then s3calc else dfcalc) (gv a (if q then 0 else 10000000)) (gv b 2000000000) (gv c 2) (gv d 1) t r' := by
      intro r'
      unfold want paceOf
      cases q <;> simp
    rw [ew] at hw ⊢
    rw [Nat.sub_zero] at hw h3 ⊢
    have hdn := step_down q (gv a (if q then 0 else 10000000)) (gv b 2000000000) (gv c 2) (gv d 1) t hM hD0 hD i0 i1
    have hup := fun r' hr' h => step_up q (gv a (if q then 0 else 10000000)) (gv b 2000000000) (gv c 2) (gv d 1) t r' j hM hMX hA0 hA i0 i1 hr' h
    rw [← hL] at hdn
    clear hL ew e2 hs1 hs'
    generalize (if q = true then s3calc else dfcalc) = F at *
    generalize gv a (if q = true then 0 else 10000000) = M at *
    generalize gv b 2000000000 = X at *
    by_cases h50 : (j : Int) ≥ 50
    · rw [decide_eq_true h50] at hw ⊢
      simp only [if_true] at hw ⊢
      have i4' := i4 (by omega)
      have hl : low (j + 1 - 50) = low (j - 50) * 3 / 4 := by rw [show j + 1 - 50 = (j - 50) + 1 by omega]; rfl
      refine ⟨⟨hw.1, hw.2, by omega, by omega, fun _ => ?_⟩, by omega, fun h205 => ?_⟩
      · rw [hl]
        generalize low (j - 50) = z at *
        omega
      · have := low_zero (j - 50) (by omega)
        rw [this] at i4'
        omega
    · rw [decide_eq_false h50] at hw ⊢
      simp only [Bool.false_eq_true, if_false] at hw ⊢
      have hu := hup (r + 1) (by omega) (i3 (by omega))
      refine ⟨⟨hw.1, hw.2, by omega, fun _ => hu, fun h => ?_⟩, fun h45 _ => ?_, by omega⟩
      · obtain rfl : j = 49 := by omega
        have : (low (49 + 1 - 50) : Int) = 1099511627776 := rfl
        rw [this]
        omega
      · rcases hu with hu | hu
        · exact hu
        · have : (2 : Int) ^ 46 ≤ 2 ^ (j + 1) := pow_mono (by omega)
          omega

theorem last_is (q : Bool) (M X L D A : Int) (xs : List Int) (hxs : ∀ j (hj : j < xs.length), (45 ≤ j → j < 50 → xs[j] = X) ∧ (205 ≤ j → xs[j] = L)) (hl : xs.length = 220) :
    ∀ (m i K : Nat), m + 1 ≤ K → i + m = 220 → laws_FnPaceEnds.l1 K L xs (xs.length : Int) (i : Int) M X D A = some true
  | 0, i, K, hK, h => by
    obtain ⟨K, rfl⟩ : ∃ q, K = q + 1 := ⟨K - 1, by omega⟩
    simp only [laws_FnPaceEnds.l1]
    rw [if_neg (by omega)]
  | m + 1, i, K, hK, h => by
    obtain ⟨K, rfl⟩ : ∃ q, K = q + 1 := ⟨K - 1, by omega⟩
    have ih := last_is q M X L D A xs hxs hl m (i + 1) K (by omega) (by omega)
    have ix : i < xs.length := by omega
    obtain ⟨q1, q2⟩ := hxs i ix
    have rx : rd xs (i : Int) = xs[i] := by simp [rd, ix]
    have hw : wrap64 ((i : Int) + 1) = ((i + 1 : Nat) : Int) := by rw [wrap64_id (by omega) (by omega)]; omega
    simp only [laws_FnPaceEnds.l1]
    rw [if_pos (by omega), if_pos (by omega), if_pos (by omega), rx, hw]
    by_cases h1 : (i : Int) ≥ 45
    · rw [if_pos h1]
      by_cases h2 : (i : Int) < 50
      · rw [if_pos h2, if_pos (q1 (by omega) (by omega)), if_neg (by omega), ih]
      · rw [if_neg h2]
        by_cases h3 : (i : Int) ≥ 205
        · rw [if_pos h3, if_pos (q2 (by omega)), ih]
        · rw [if_neg h3, ih]
    · rw [if_neg h1, if_neg (by omega), ih]

theorem build_is (q : Bool) (a b c d s M X D A : Int) (h : ∀ K, 400 ≤ K → ((laws_paceRun.f a b c d q s (goods 220) (afters 220)).bind fun bt150 => (if bt150.2 = true then ((laws_paceAwake.f).bind fun t154 => (laws_FnPaceEnds.j2 K q bt150.1 (!t154) M X D A)) else (laws_FnPaceEnds.j2 K q bt150.1 true M X D A))) = some true) :
    ∀ (m i K : Nat), m + 401 ≤ K → i + m = 220 → laws_FnPaceEnds.l0 K q s (goods i) (afters i) (i : Int) a b c d M X D A = some true
  | 0, i, K, hK, hi => by
    obtain ⟨K, rfl⟩ : ∃ q, K = q + 1 := ⟨K - 1, by omega⟩
    obtain rfl : i = 220 := by omega
    simp only [laws_FnPaceEnds.l0]
    rw [if_neg (by decide)]
    exact h K (by omega)
  | m + 1, i, K, hK, hi => by
    obtain ⟨K, rfl⟩ : ∃ q, K = q + 1 := ⟨K - 1, by omega⟩
    have ih := build_is q a b c d s M X D A h m (i + 1) K (by omega) (by omega)
    simp only [laws_FnPaceEnds.l0]
    rw [if_pos (by omega), if_pos (by rw [goods_length]; omega), if_pos (by rw [afters_length]; omega), wrap64_id (by omega) (by omega), ← goods_succ, ← afters_succ]
    exact ih
end Go.Proofs.Ytgdjplpbpknfmaa.PureE
namespace Go.Proofs.Ytgdjplpbpknfmaa.Pure
open Go.RowKit Go.Proofs.Ytgdjplpbpknfmaa.PureE Go.Proofs.Ytgdjplpbpknfmaa.PureR Go.Proofs.Ytgdjplpbpknfmaa.PR Go.Proofs.YtgdjplpbpknfmaaW.PrintWords Go.Proofs.YtgdjplpbpknfmaaW.PrintLast Go.Proofs.Ytgdjplpbpknfmaa.Pl Go.Proofs.Ytgdjplpbpknfmaa.Given
theorem FnPaceEnds : laws_FnPaceEnds.Pure := by
  intro a b c d q s _ _
  refine ⟨700, ?_⟩
  have jt : ∀ M X D A, laws_FnPaceEnds.j0 700 q s true a b c d M X D A = some true := by
    intro M X D A; simp only [laws_FnPaceEnds.j0, if_true]
  unfold laws_FnPaceEnds.f
  rw [given_is a b c d q 698]
  simp only [Option.bind_some]
  obtain ⟨p, hp⟩ := in_some a b c d (mx s 0) 0 0 0
  rw [hp]
  simp only [Option.bind_some]
  cases p with
  | false => rw [if_neg (by decide)]; exact jt _ _ _ _
  | true =>
    obtain ⟨h1, h2, h3, h4, h5, h6, -⟩ := in_true hp
    rw [if_pos rfl]
    by_cases c1 : s < 1
    · rw [if_pos c1]; exact jt _ _ _ _
    · rw [if_neg c1]
      have hmx : mx s 0 = s := by unfold mx; split <;> omega
      rw [hmx] at h5 h6
      by_cases c2 : gv a (if q = true then 0 else 10000000) > gv b 2000000000
      · rw [if_pos c2]; exact jt _ _ _ _
      · rw [if_neg c2]
        by_cases c3 : gv d 1 > 1
        · rw [if_pos c3]; exact jt _ _ _ _
        · rw [if_neg c3]
          by_cases c4 : gv c 2 > 2
          · rw [decide_eq_true c4]; exact jt _ _ _ _
          · rw [decide_eq_false c4]
            simp only [laws_FnPaceEnds.j0, Bool.false_eq_true, if_false]
            refine build_is q a b c d s _ _ _ _ ?_ 220 0 _ (by omega) (by omega)
            intro K hK
            rw [paceRun_is q a b c d s (goods 220) (afters 220) h1 h2 h3 h4 (by omega) h6 (by rw [goods_length, afters_length]) (by rw [goods_length]; decide) (by intro t ht; rw [(List.mem_replicate.1 ht).2]; decide)]
            simp only [Option.bind_some, if_true]
            rw [awake_is]
            simp only [Option.bind_some]
            obtain ⟨K, rfl⟩ : ∃ q, K = q + 2 := ⟨K - 2, by omega⟩
            have hE := ends q a b c d s h1 h2 h3 h4 (by omega) h6 (by omega) (by omega) (by omega) _ rfl
            have hlen : (wants q a b c d (goods 220) (afters 220) s 0).length = 220 := by
              unfold wants
              rw [runs_length _ _ _ _ _ _ _ _ _ (by rw [goods_length, afters_length]), goods_length]
            simp only [laws_FnPaceEnds.j2, Bool.not_true, Bool.false_eq_true, if_false, laws_FnPaceEnds.j3]
            cases q with
            | true => exact last_is true _ _ _ _ _ _ hE hlen 220 0 K (by omega) (by omega)
            | false => exact last_is false _ _ _ _ _ _ hE hlen 220 0 K (by omega) (by omega)
end Go.Proofs.Ytgdjplpbpknfmaa.Pure
