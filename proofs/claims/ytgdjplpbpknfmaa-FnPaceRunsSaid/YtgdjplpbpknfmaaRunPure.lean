/- Facts of the laws on runs: call by call, each time to sleep follows from the last one; within the law's own bounds, no other conditions. -/
import Derived.Test.YtgdjplpbpknfmaaPRx2
import Derived.Test.YtgdjplpbpknfmaaPl
namespace Go.Proofs.Ytgdjplpbpknfmaa.PureR
open Go.RowKit Go.Proofs.Ytgdjplpbpknfmaa.PR Go.Proofs.YtgdjplpbpknfmaaW.PrintWords Go.Proofs.YtgdjplpbpknfmaaW.PrintLast Go.Proofs.Ytgdjplpbpknfmaa.Pl Go.Proofs.Ytgdjplpbpknfmaa.Given
set_option linter.unusedVariables false

theorem in_true {a b c d e f g h : Int} (H : spec_PaceIn.f a b c d e f g h = some true) : a < 1099511627776 ∧ b < 1099511627776 ∧ c ≤ 16 ∧ d ≤ 16 ∧ 0 ≤ e ∧ e < 1099511627776 ∧ 0 ≤ f ∧ f < 1099511627776 ∧ g < 1099511627776 ∧ 0 ≤ h ∧ h ≤ 8 := by
  unfold spec_PaceIn.f at H
  repeat' split at H
  all_goals simp at H
  omega
theorem in_some (a b c d e f g h : Int) : ∃ t, spec_PaceIn.f a b c d e f g h = some t := by
  unfold spec_PaceIn.f
  repeat' split
  all_goals exact ⟨_, rfl⟩

theorem pow_mono {a b : Nat} (h : a ≤ b) : (2 : Int) ^ a ≤ 2 ^ b := by
  have := Nat.pow_le_pow_right (show 0 < 2 by decide) h
  have e1 : ((2 ^ a : Nat) : Int) = (2 : Int) ^ a := by simp
  have e2 : ((2 ^ b : Nat) : Int) = (2 : Int) ^ b := by simp
  omega
theorem power_loop : ∀ (m i k n : Nat), i + m = n → n ≤ 60 → m < k → spec_power.l0 k ((2 : Int) ^ i) n i = some ((2 : Int) ^ n)
  | 0, i, k, n, h, hn, hk => by
    obtain ⟨k, rfl⟩ : ∃ q, k = q + 1 := ⟨k - 1, by omega⟩
    obtain rfl : i = n := by omega
    simp only [spec_power.l0]
    rw [if_neg (by omega)]
  | m + 1, i, k, n, h, hn, hk => by
    obtain ⟨k, rfl⟩ : ∃ q, k = q + 1 := ⟨k - 1, by omega⟩
    simp only [spec_power.l0]
    rw [if_pos (by omega)]
    have p : (2 : Int) ^ (i + 1) ≤ 2 ^ 60 := pow_mono (by omega)
    have p0 : 0 < (2 : Int) ^ (i + 1) := Int.pow_pos (by decide)
    have e : (2 : Int) ^ i * 2 = 2 ^ (i + 1) := (Int.pow_succ 2 i).symm
    rw [e, wrap64_id (by omega) (by omega), wrap64_id (by omega) (by omega), show ((i : Int) + 1) = ((i + 1 : Nat) : Int) by omega]
    exact power_loop m (i + 1) k n (by omega) hn (by omega)
theorem power_is (a : Int) (h0 : 0 ≤ a) (h1 : a ≤ 16) (k : Nat) (hk : 16 < k) : spec_power.f k a = some ((2 : Int) ^ a.toNat) := by
  obtain ⟨n, rfl⟩ := Int.eq_ofNat_of_zero_le h0
  rw [Int.toNat_natCast]
  exact power_loop n 0 k n (by omega) (by omega) (by omega)

theorem given_is (a b c d : Int) (q : Bool) (k : Nat) : spec_PaceGiven.f (k + 2) a b c d q = some (gv a (if q then 0 else 10000000), gv b 2000000000, gv c 2, gv d 1) := by
  have j1 : ∀ a b, spec_PaceGiven.j1 (k + 1) a b c d = some (a, b, gv c 2, gv d 1) := by
    intro a b
    simp only [spec_PaceGiven.j1, gv]
    by_cases h3 : c < 0 <;> by_cases h4 : d < 0 <;> simp [h3, h4, Int.not_le.2, Int.not_lt.1] <;> omega
  have j0 : ∀ a, spec_PaceGiven.j0 (k + 2) a b c d = some (a, gv b 2000000000, gv c 2, gv d 1) := by
    intro a
    simp only [spec_PaceGiven.j0]
    by_cases h2 : b < 0
    · rw [if_pos h2, j1]; unfold gv; rw [if_neg (show ¬ 0 ≤ b by omega)]
    · rw [if_neg h2, j1]; unfold gv; rw [if_pos (show 0 ≤ b by omega)]
  unfold spec_PaceGiven.f
  by_cases h1 : a < 0
  · rw [if_pos h1, j0, j0]
    cases q <;> simp [gv, show ¬ 0 ≤ a by omega]
  · rw [if_neg h1, j0]; unfold gv; rw [if_pos (show 0 ≤ a by omega)]

theorem attack_is (s a : Int) (ha0 : 1 ≤ a) (ha : a ≤ 16) (hs : 0 ≤ s) (hs' : s < 1099511627776) :
    wrap64 (Int.tdiv (wrap64 (s * (2 : Int) ^ a.toNat)) (wrap64 ((2 : Int) ^ a.toNat - 1))) = attack s a ∧ ¬ wrap64 ((2 : Int) ^ a.toNat - 1) = 0 := by
  obtain ⟨n, rfl⟩ := Int.eq_ofNat_of_zero_le (show 0 ≤ a by omega)
  rw [Int.toNat_natCast]
  obtain ⟨p1, p2, e1, e2, e3, e4⟩ := pow_facts n s (by omega) (by omega) hs hs'
  have m0 : 0 ≤ s * 2 ^ n := Int.mul_nonneg hs (by omega)
  have m1 : s * 2 ^ n ≤ 1099511627776 * 65536 := Int.mul_le_mul (by omega) p2 (by omega) (by omega)
  unfold attack
  rw [Int.toNat_natCast, wrap64_id (x := s * 2 ^ n) (by omega) (by omega), wrap64_id (x := 2 ^ n - 1) (by omega) (by omega)]
  exact ⟨rfl, by omega⟩
theorem decay_is (s d : Int) (hd0 : 0 ≤ d) (hd : d ≤ 16) (hs : 0 ≤ s) (hs' : s < 1099511627776) :
    wrap64 (Int.tdiv (wrap64 (s * (wrap64 ((2 : Int) ^ d.toNat - 1)))) ((2 : Int) ^ d.toNat)) = decay s d ∧ ¬ (2 : Int) ^ d.toNat = 0 ∧ 0 ≤ decay s d := by
  obtain ⟨n, rfl⟩ := Int.eq_ofNat_of_zero_le hd0
  rw [Int.toNat_natCast]
  have p2 : (2 : Int) ^ n ≤ 2 ^ 16 := pow_mono (by omega)
  have p1 : 0 < (2 : Int) ^ n := Int.pow_pos (by decide)
  have m0 : 0 ≤ s * (2 ^ n - 1) := Int.mul_nonneg hs (by omega)
  have m1 : s * (2 ^ n - 1) ≤ 1099511627776 * 65536 := Int.mul_le_mul (by omega) (by omega) (by omega) (by omega)
  have m2 : s * 2 ^ n = s * (2 ^ n - 1) + s := by rw [Int.mul_sub, Int.mul_one]; omega
  unfold decay
  rw [Int.toNat_natCast, wrap64_id (x := 2 ^ n - 1) (by omega) (by omega), wrap64_id (x := s * (2 ^ n - 1)) (by omega) (by omega), wrap64_id (x := s * 2 ^ n) (by omega) (by omega), wrap64_id (x := s * 2 ^ n - s) (by omega) (by omega)]
  have e : s * 2 ^ n - s = s * (2 ^ n - 1) := by omega
  rw [e, Int.tdiv_eq_ediv_of_nonneg m0]
  have q0 : 0 ≤ s * (2 ^ n - 1) / 2 ^ n := Int.ediv_nonneg m0 (by omega)
  have q1 : s * (2 ^ n - 1) / 2 ^ n ≤ s * (2 ^ n - 1) := Int.ediv_le_self _ m0
  rw [wrap64_id (by omega) (by omega)]
  exact ⟨rfl, by omega, q0⟩

def want (q : Bool) (a b c d s r t x : Int) : Int := if q then paceOf s3calc (gv a 0) (gv b 2000000000) (gv c 2) (gv d 1) s r t x else paceOf dfcalc (gv a 10000000) (gv b 2000000000) (gv c 2) (gv d 1) s r t x
theorem next_is (q : Bool) (a b c d s r t x : Int) (hc : c ≤ 16) (hd : d ≤ 16) (hs : 0 ≤ s) (hs' : s < 1099511627776) (hr : 0 ≤ r) (k : Nat) (hk : 20 < k) :
    spec_PaceNext.f k a b c d q s r t x = some (want q a b c d s r t x) := by
  obtain ⟨k, rfl⟩ : ∃ q, k = q + 2 := ⟨k - 2, by omega⟩
  unfold spec_PaceNext.f want
  rw [given_is]
  simp only [Option.bind_some]
  have hgc0 := gv_lo (x := c) (d := 2) (by decide)
  have hgc1 := gv_hi (x := c) (d := 2) (b := 16) hc (by decide)
  have hgd0 := gv_lo (x := d) (d := 1) (by decide)
  have hgd1 := gv_hi (x := d) (d := 1) (b := 16) hd (by decide)
  rw [show (if q = true then paceOf s3calc (gv a 0) (gv b 2000000000) (gv c 2) (gv d 1) s r t x else paceOf dfcalc (gv a 10000000) (gv b 2000000000) (gv c 2) (gv d 1) s r t x) = paceOf (if q then s3calc else dfcalc) (gv a (if q then 0 else 10000000)) (gv b 2000000000) (gv c 2) (gv d 1) s r t x by cases q <;> rfl]
  generalize gv a (if q = true then 0 else 10000000) = A at *
  generalize gv b 2000000000 = B at *
  generalize gv c 2 = C at *
  generalize gv d 1 = D at *
  have j0t : spec_PaceNext.j0 (k + 2) q true A B C D s r t x = some (after A t) := by
    simp only [spec_PaceNext.j0, if_true]
    unfold after mx
    congr 1
  have j0f : spec_PaceNext.j0 (k + 2) q false A B C D s r t x = some ((if q then s3calc else dfcalc) A B C D s r) := by
    simp only [spec_PaceNext.j0, Bool.false_eq_true, if_false]
    by_cases h1 : r > 0
    · rw [if_pos h1, power_is D hgd0 hgd1 _ (by omega)]
      simp only [Option.bind_some]
      by_cases h2 : D = 0
      · rw [if_pos h2]
        cases q <;> simp only [s3calc, dfcalc, if_true, Bool.false_eq_true, if_false] <;> rw [if_pos h1, if_pos h2]
      · rw [if_neg h2]
        obtain ⟨e1, e2⟩ := attack_is s D (by omega) hgd1 hs hs'
        cases q with
        | true =>
          simp only [spec_PaceNext.j1, s3calc, if_true]
          rw [if_pos h1, if_neg h2]
          by_cases h3 : s = 0
          · rw [if_pos (by simp [h3]), if_pos h3]
          · rw [if_neg (by simp [h3]), if_neg h3]
            rw [if_neg e2, e1]
            unfold mn
            congr 1
            split <;> split <;> omega
        | false =>
          simp only [spec_PaceNext.j1, dfcalc, Bool.false_eq_true, if_false]
          rw [if_pos h1, if_neg h2, if_neg e2, e1]
          unfold mn
          congr 1
    · rw [if_neg h1, power_is C hgc0 hgc1 _ (by omega)]
      simp only [Option.bind_some]
      obtain ⟨e1, e2, e3⟩ := decay_is s C hgc0 hgc1 hs hs'
      rw [if_neg e2, e1]
      cases q with
      | true =>
        simp only [s3calc, if_true]
        rw [if_neg h1]
        by_cases h4 : decay s C < A
        · rw [if_pos h4, if_pos h4]
        · rw [if_neg h4, if_neg h4]
          unfold mx
          congr 1
          split <;> omega
      | false =>
        simp only [dfcalc, Bool.false_eq_true, if_false]
        rw [if_neg h1]
        unfold mx
        congr 1
        split <;> split <;> omega
  clear hgc0 hgc1 hgd0 hgd1
  generalize (if q = true then s3calc else dfcalc) = F at *
  unfold paceOf
  by_cases h1 : t ≥ 0
  · rw [if_pos h1]
    by_cases h2 : r > 0
    · rw [if_pos h2, j0t, if_pos ⟨h1, .inl h2⟩]
    · rw [if_neg h2]
      by_cases h3 : t > 0
      · rw [if_pos h3, j0t, if_pos ⟨h1, .inr (.inl h3)⟩]
      · rw [if_neg h3]
        by_cases h4 : x > 0
        · rw [decide_eq_true h4, j0t, if_pos ⟨h1, .inr (.inr h4)⟩]
        · rw [decide_eq_false h4, j0f, if_neg (by omega)]
  · rw [if_neg h1, j0f, if_neg (by omega)]

theorem awake_is : laws_paceAwake.f = some true := by decide +kernel

theorem runs_length (kk : Int → Int → Int → Int → Int → Int → Int) (mn mx d a : Int) : ∀ (l3 : List Bool) (l4 : List Int) (s r : Int), l3.length = l4.length → (runs kk mn mx d a l3 l4 s r).length = l3.length
  | [], _, _, _, _ => rfl
  | g :: gs, [], _, _, h => by simp at h
  | g :: gs, t :: ts, s, r, h => by
    simp only [runs, List.length_cons]
    rw [runs_length kk mn mx d a gs ts _ _ (by simpa using h)]
/-- The kit's one name for both calculators' times. -/
def wants (q : Bool) (a b c d : Int) (l3 : List Bool) (l4 : List Int) (s r : Int) : List Int :=
  runs (if q then s3calc else dfcalc) (gv a (if q then 0 else 10000000)) (gv b 2000000000) (gv c 2) (gv d 1) l3 l4 s r
theorem want_bnd (q : Bool) (a b c d s r t : Int) (ha : a < 1099511627776) (hb : b < 1099511627776) (hc : c ≤ 16) (hd : d ≤ 16) (hs : 0 ≤ s) (hs' : s < 1099511627776) (hr : 0 ≤ r) (ht : t < 1099511627776) :
    0 ≤ want q a b c d s r t 0 ∧ want q a b c d s r t 0 < 1099511627776 := by
  unfold want
  cases q with
  | true => exact bndS3 (gv_lo (by decide)) (gv_hi (by omega) (by decide)) (gv_lo (by decide)) (gv_hi (by omega) (by decide)) (gv_lo (by decide)) (gv_hi hc (by decide)) (gv_lo (by decide)) (gv_hi hd (by decide)) hs hs' hr ht
  | false => exact bndDf (gv_lo (by decide)) (gv_hi (by omega) (by decide)) (gv_lo (by decide)) (gv_hi (by omega) (by decide)) (gv_lo (by decide)) (gv_hi hc (by decide)) (gv_lo (by decide)) (gv_hi hd (by decide)) hs hs' hr ht
theorem stp_want (q : Bool) (a b c d s r t : Int) (g : Bool) : (stp (if q then s3calc else dfcalc) (gv a (if q then 0 else 10000000)) (gv b 2000000000) (gv c 2) (gv d 1) s r g t).1 = want q a b c d s (if g then 0 else r + 1) (if g then -1 else t) 0 := by
  cases q <;> rfl
theorem gpr (q : Bool) (a b c d s : Int) (l3 : List Bool) (l4 : List Int) (h1 : a < 1099511627776) (h2 : b < 1099511627776) (h3 : c ≤ 16) (h4 : d ≤ 16) (h5 : 0 ≤ s) (h6 : s < 1099511627776) (h7 : l3.length = l4.length) (h8 : l3.length ≤ 1000) (h9 : ∀ t ∈ l4, t < 1099511627776) :
    impl_PaceRuns.f a b c d q s l3 l4 = some (wants q a b c d l3 l4 s 0) := by
  unfold impl_PaceRuns.f
  rw [if_pos ⟨by omega, by omega, h3, h4, h5, h6, h7, h8, h9⟩]
  cases q <;> rfl
theorem paceRun_is (q : Bool) (a b c d s : Int) (l3 : List Bool) (l4 : List Int) (h1 : a < 1099511627776) (h2 : b < 1099511627776) (h3 : c ≤ 16) (h4 : d ≤ 16) (h5 : 0 ≤ s) (h6 : s < 1099511627776) (h7 : l3.length = l4.length) (h8 : l3.length ≤ 1000) (h9 : ∀ t ∈ l4, t < 1099511627776) :
    laws_paceRun.f a b c d q s l3 l4 = some (wants q a b c d l3 l4 s 0, true) := by
  unfold laws_paceRun.f
  rw [gpr q a b c d s l3 l4 h1 h2 h3 h4 h5 h6 h7 h8 h9]
  simp [wants, runs_length _ _ _ _ _ l3 l4 s 0 h7]
end Go.Proofs.Ytgdjplpbpknfmaa.PureR
