/- Ranges of bytes: what the reference says is what the package reads. Plain. -/
import Derived.Test.YtkdmdoflfaldiaaDoorCw
namespace Go.Proofs.YtkdmdoflfaldiaaDoor.Given
open Go.RowKit
open Go.Proofs.YtkdmdoflfaldiaaDoor.Zp
set_option linter.unusedVariables false
set_option linter.unusedSimpArgs false

def big63 : Int := 9223372036854775807
/-- Figures that fit into 63 bits. -/
def figR : List UInt8 → Int → Option Int
  | [], n => some n
  | b :: l, n => if (b.toNat : Int) - 48 < 0 ∨ (b.toNat : Int) - 48 > 9 ∨ n > (big63 - ((b.toNat : Int) - 48)) / 10 then none else figR l (n * 10 + ((b.toNat : Int) - 48))
def figO (l : List UInt8) : Option Int := if l = [] then none else figR l 0
theorem par_ge (M : Nat) : ∀ (l : List UInt8) (acc u : Nat), Lib.parseUintM M acc l = .ok u → acc ≤ u
  | [], acc, u, h => by
    unfold Lib.parseUintM at h
    cases h
    exact Nat.le_refl _
  | b :: l, acc, u, h => by
    unfold Lib.parseUintM at h
    split at h
    · split at h
      · cases h
      · split at h
        · cases h
        · have := par_ge M l _ u h
          omega
    · cases h
def endI : Lib.NumEnd Nat → Option Int
  | .ok u => if 9223372036854775808 ≤ u then none else some (u : Int)
  | _ => none
theorem par_fig : ∀ (l : List UInt8) (acc : Nat), acc ≤ 9223372036854775807 → endI (Lib.parseUintM 18446744073709551615 acc l) = figR l (acc : Int)
  | [], acc, h => by
    unfold Lib.parseUintM figR
    show (if 9223372036854775808 ≤ acc then none else some (acc : Int)) = _
    rw [if_neg (by omega)]
  | b :: l, acc, h => by
    have hb := b.toNat_lt
    unfold Lib.parseUintM figR
    unfold big63
    by_cases hd : 48 ≤ b.toNat ∧ b.toNat ≤ 57
    · rw [if_pos hd]
      by_cases hbig : acc * 10 + (b.toNat - 48) ≤ 9223372036854775807
      · rw [if_neg (by omega), if_neg (by omega), par_fig l _ hbig, if_neg (by omega)]
        congr 1
        omega
      · rw [if_pos (show (b.toNat : Int) - 48 < 0 ∨ (b.toNat : Int) - 48 > 9 ∨ (acc : Int) > (9223372036854775807 - ((b.toNat : Int) - 48)) / 10 by right; right; omega)]
        by_cases g1 : 1844674407370955162 ≤ acc
        · rw [if_pos g1]; rfl
        · rw [if_neg g1]
          by_cases g2 : 18446744073709551615 < acc * 10 + (b.toNat - 48)
          · rw [if_pos g2]; rfl
          · rw [if_neg g2]
            cases hp : Lib.parseUintM 18446744073709551615 (acc * 10 + (b.toNat - 48)) l
            case ok u =>
              have := par_ge _ l _ u hp
              show (if 9223372036854775808 ≤ u then none else some (u : Int)) = _
              rw [if_pos (by omega)]
            all_goals rfl
    · rw [if_neg hd, if_pos (by omega)]
      rfl
theorem pI_plus {l : List UInt8} (h1 : ∀ b r, l = b :: r → b.toNat ≠ 43 ∧ b.toNat ≠ 45) : pI l = figO l := by
  unfold pI figO Lib.parseIntB
  cases l with
  | nil => rfl
  | cons b r =>
    obtain ⟨h43, h45⟩ := h1 b r rfl
    dsimp only
    rw [if_neg (show ¬ (b.toNat = 43 ∨ b.toNat = 45) by omega), if_neg (List.cons_ne_nil _ _)]
    have := par_fig (b :: r) 0 (by omega)
    unfold Lib.parseUintB
    rw [if_neg (List.cons_ne_nil _ _)]
    have e64 : (2 ^ 64 - 1 : Nat) = 18446744073709551615 := by decide
    have e63 : (2 ^ (64 - 1) : Nat) = 9223372036854775808 := by decide
    rw [e64, e63]
    cases hp : Lib.parseUintM 18446744073709551615 0 (b :: r)
    case ok u =>
      rw [hp] at this
      unfold endI at this
      dsimp only at this ⊢
      by_cases hu : 9223372036854775808 ≤ u
      · rw [if_pos hu] at this
        rw [if_pos ⟨h45, hu⟩]
        exact this
      · rw [if_neg hu] at this
        rw [if_neg (fun h => hu h.2), if_neg (fun h => h45 h.1), if_neg h45]
        exact this
    all_goals
      rw [hp] at this
      exact this
theorem pI_minus {r : List UInt8} {b : UInt8} (h : b.toNat = 45) {v : Int} (hv : pI (b :: r) = some v) : v ≤ 0 := by
  unfold pI Lib.parseIntB at hv
  dsimp only at hv
  rw [if_pos (.inr h)] at hv
  cases hp : Lib.parseUintB 64 r
  case ok u =>
    rw [hp] at hv
    dsimp only at hv
    split at hv
    · rename_i v' hv'
      split at hv'
      · cases hv'
      · split at hv'
        · cases hv'
        · have e : v' = -(u : Int) := by
            first
              | (rw [if_pos h] at hv'; cases hv'; rfl)
              | (cases hv'; rfl)
          cases hv
          omega
    · cases hv
  all_goals
    rw [hp] at hv
    cases hv
/-- A byte that is no figure. -/
theorem fig_bad : ∀ (l : List UInt8) (n : Int) (b : UInt8), b ∈ l → (b.toNat < 48 ∨ 57 < b.toNat) → figR l n = none
  | [], n, b, h, _ => by cases h
  | x :: l, n, b, h, hb => by
    unfold figR
    rcases List.mem_cons.1 h with rfl | h
    · rw [if_pos (by omega)]
    · split
      · rfl
      · exact fig_bad l _ b h hb
theorem figO_bad {l : List UInt8} {b : UInt8} (h : b ∈ l) (hb : b.toNat < 48 ∨ 57 < b.toNat) : figO l = none := by
  unfold figO
  split
  · rfl
  · exact fig_bad l 0 b h hb
/-- The reference's three numbers. -/
def threeS (p q y : List UInt8) : Option (Int × Int × Int) := match figO p, figO q, (if y = [42] then some (-1) else figO y) with
  | some a, some b, some c => if b < a ∨ (c ≥ 0 ∧ c ≤ b) then none else some (a, b, c)
  | _, _, _ => none
theorem figR_ge : ∀ (l : List UInt8) (n v : Int), 0 ≤ n → figR l n = some v → 0 ≤ v
  | [], n, v, h, e => by unfold figR at e; cases e; exact h
  | b :: l, n, v, h, e => by
    unfold figR at e
    split at e
    · cases e
    · rename_i hh
      exact figR_ge l _ v (by omega) e
theorem figO_ge {l : List UInt8} {v : Int} (h : figO l = some v) : 0 ≤ v := by
  unfold figO at h
  split at h
  · cases h
  · exact figR_ge l 0 v (by omega) h
theorem three_is {p q y : List UInt8} (hp : ∀ b ∈ p, b ≠ 45 ∧ b ≠ 43) (hq : ∀ b ∈ q, b ≠ 45 ∧ b ≠ 43) (hy : ∀ b ∈ y, b ≠ 43) : three p q y = threeS p q y := by
  have nat : ∀ {b : UInt8} {k : Nat}, k < 256 → b ≠ UInt8.ofNat k → b.toNat ≠ k := by
    intro b k hk h e
    apply h
    rw [← e]
    exact (UInt8.ofNat_toNat).symm
  have ep : pI p = figO p := pI_plus (fun b r e => ⟨nat (by omega) (hp b (by rw [e]; simp)).2, nat (by omega) (hp b (by rw [e]; simp)).1⟩)
  have eq' : pI q = figO q := pI_plus (fun b r e => ⟨nat (by omega) (hq b (by rw [e]; simp)).2, nat (by omega) (hq b (by rw [e]; simp)).1⟩)
  unfold three threeS
  rw [ep, eq']
  cases hA : figO p with
  | none => rfl
  | some a =>
    have ha := figO_ge hA
    dsimp only
    rw [if_neg (by omega)]
    cases hB : figO q with
    | none => rfl
    | some b =>
      dsimp only
      by_cases hba : b < a
      · rw [if_pos hba]
        cases (if y = [42] then some (-1) else figO y) with
        | none => rfl
        | some c => dsimp only; rw [if_pos (.inl hba)]
      · rw [if_neg hba]
        by_cases hy42 : y = [42]
        · rw [if_pos hy42, if_pos hy42]
          dsimp only
          rw [if_neg (by omega)]
        · rw [if_neg hy42, if_neg hy42]
          have key : ∀ c, pI y = some c → figO y = some c ∨ (figO y = none ∧ c ≤ 0) := by
            intro c hc
            cases y with
            | nil =>
              have : pI ([] : List UInt8) = figO [] := pI_plus (fun b r e => by cases e)
              rw [this] at hc
              exact .inl hc
            | cons d r =>
              by_cases hd : d.toNat = 45
              · exact .inr ⟨figO_bad (b := d) (by simp) (by omega), pI_minus hd hc⟩
              · left
                have : pI (d :: r) = figO (d :: r) := pI_plus (fun b r' e => by
                  cases e
                  exact ⟨nat (by omega) (hy d (by simp)), hd⟩)
                rw [← this]
                exact hc
          have key2 : pI y = none → figO y = none := by
            intro hc
            cases y with
            | nil => rfl
            | cons d r =>
              by_cases hd : d.toNat = 45
              · exact figO_bad (b := d) (by simp) (by omega)
              · have : pI (d :: r) = figO (d :: r) := pI_plus (fun b r' e => by
                  cases e
                  exact ⟨nat (by omega) (hy d (by simp)), hd⟩)
                rw [← this]
                exact hc
          cases hC : pI y with
          | none => rw [key2 hC]
          | some c =>
            dsimp only
            rcases key c hC with h | ⟨h, h0⟩
            · have hc := figO_ge h
              rw [h]
              dsimp only
              by_cases hbc : b ≥ c
              · rw [if_pos (.inr hbc), if_pos (.inr ⟨hc, hbc⟩)]
              · rw [if_neg (by omega), if_neg (by omega)]
            · rw [h]
              dsimp only
              rw [if_pos (.inr (by omega))]
/-- Where the first dash ahead of the first slash, and the first slash stand. -/
def scan : List UInt8 → Int → Int → Int → Int × Int
  | [], _, d, s => (d, s)
  | b :: l, i, d, s => scan l (i + 1) (if b = 45 ∧ d < 0 ∧ s < 0 then i else d) (if b = 47 ∧ s < 0 then i else s)
theorem scan_done : ∀ (l : List UInt8) (i d s : Int), 0 ≤ s → scan l i d s = (d, s)
  | [], i, d, s, h => rfl
  | b :: l, i, d, s, h => by
    unfold scan
    rw [if_neg (by omega), if_neg (by omega)]
    exact scan_done l _ d s h
theorem scan_slash : ∀ (x y : List UInt8) (i d : Int), 0 ≤ i → (∀ b ∈ x, b ≠ 47) → scan (x ++ 47 :: y) i d (-1) = ((scan x i d (-1)).1, i + x.length)
  | [], y, i, d, hi, h => by
    show scan (47 :: y) i d (-1) = _
    unfold scan
    rw [if_neg (by simp), if_pos (by simp), scan_done _ _ _ _ hi]
    simp [scan]
  | b :: x, y, i, d, hi, h => by
    have hb := h b (by simp)
    show scan (b :: (x ++ 47 :: y)) i d (-1) = _
    unfold scan
    rw [if_neg (show ¬ (b = 47 ∧ (-1 : Int) < 0) from fun e => hb e.1)]
    rw [scan_slash x y (i + 1) _ (by omega) (fun c hc => h c (by simp [hc]))]
    simp only [Prod.mk.injEq, List.length_cons, true_and]
    omega
theorem scan_none : ∀ (l : List UInt8) (i d : Int), (∀ b ∈ l, b ≠ 47) → (scan l i d (-1)).2 = -1
  | [], i, d, h => rfl
  | b :: l, i, d, h => by
    unfold scan
    rw [if_neg (show ¬ (b = 47 ∧ (-1 : Int) < 0) from fun e => h b (by simp) e.1)]
    exact scan_none l _ _ (fun c hc => h c (by simp [hc]))
theorem scan_kept : ∀ (l : List UInt8) (i d : Int), 0 ≤ d → (∀ b ∈ l, b ≠ 47) → (scan l i d (-1)).1 = d
  | [], i, d, _, h => rfl
  | b :: l, i, d, hd, h => by
    unfold scan
    rw [if_neg (by omega), if_neg (fun e => h b (by simp) e.1)]
    exact scan_kept l _ d hd (fun c hc => h c (by simp [hc]))
theorem scan_dash : ∀ (p q : List UInt8) (i : Int), 0 ≤ i → (∀ b ∈ p, b ≠ 45) → (∀ b ∈ p ++ 45 :: q, b ≠ 47) → (scan (p ++ 45 :: q) i (-1) (-1)).1 = i + p.length
  | [], q, i, hi, h, h2 => by
    show (scan (45 :: q) i (-1) (-1)).1 = _
    unfold scan
    rw [if_pos (by simp), if_neg (by simp), scan_kept _ _ _ hi (fun c hc => h2 c (by simp [hc]))]
    simp
  | b :: p, q, i, hi, h, h2 => by
    show (scan (b :: (p ++ 45 :: q)) i (-1) (-1)).1 = _
    unfold scan
    rw [if_neg (fun e => h b (by simp) e.1), if_neg (fun e => h2 b (by simp) e.1), scan_dash p q (i + 1) (by omega) (fun c hc => h c (by simp [hc])) (fun c hc => h2 c (by simp at hc ⊢; exact .inr hc))]
    simp only [List.length_cons]
    omega
theorem scan_nodash : ∀ (l : List UInt8) (i : Int), (∀ b ∈ l, b ≠ 45) → (∀ b ∈ l, b ≠ 47) → (scan l i (-1) (-1)).1 = -1
  | [], i, h, _ => rfl
  | b :: l, i, h, h2 => by
    unfold scan
    rw [if_neg (fun e => h b (by simp) e.1), if_neg (fun e => h2 b (by simp) e.1)]
    exact scan_nodash l _ (fun c hc => h c (by simp [hc])) (fun c hc => h2 c (by simp [hc]))
/-- What the reference makes of what stands behind the unit. -/
def spD (D : List UInt8) : Option (Int × Int × Int) :=
  if (scan D 0 (-1) (-1)).1 < 0 ∨ (scan D 0 (-1) (-1)).2 < 0 then none
  else threeS (D.take (scan D 0 (-1) (-1)).1.toNat) ((D.take (scan D 0 (-1) (-1)).2.toNat).drop ((scan D 0 (-1) (-1)).1.toNat + 1)) (D.drop ((scan D 0 (-1) (-1)).2.toNat + 1))
def spR (l : List UInt8) : Option (Int × Int × Int) := if l.take 6 = unit6 then spD (l.drop 6) else none
theorem threeS_q {p q y : List UInt8} (h : figO q = none) : threeS p q y = none := by unfold threeS; rw [h]; cases figO p <;> rfl
theorem threeS_y {p q y : List UInt8} (h : (47 : UInt8) ∈ y) : threeS p q y = none := by
  unfold threeS
  rw [if_neg (fun e => by rw [e] at h; simp at h), figO_bad h (by decide)]
  cases figO p <;> cases figO q <;> rfl
theorem pieces_two' {c : UInt8} {l : List UInt8} (h : c ∈ l) : ∃ x y L, pieces c [] l = x :: y :: L := by
  cases hi : ixN c l with
  | none => exact absurd rfl (ixN_none hi c h)
  | some n =>
    obtain ⟨h1, h2, _⟩ := ixN_some hi
    have := pieces_append c (l.take n) [] (l.drop (n + 1)) h1
    rw [← h2] at this
    cases hp : pieces c [] (l.drop (n + 1)) with
    | nil => exact absurd hp (pieces_ne c _ _)
    | cons y L => exact ⟨_, y, L, by rw [this, hp]⟩
theorem rd_is {l : List UInt8} (h43 : ∀ b ∈ l, b ≠ 43) : rdI l = spR l := by
  unfold rdI spR
  by_cases hu : l.take 6 = unit6
  · rw [if_pos hu, if_pos hu]
    obtain ⟨D, hD⟩ : ∃ D, l.drop 6 = D := ⟨_, rfl⟩
    have hD43 : ∀ b ∈ D, b ≠ 43 := fun b hb => h43 b (List.mem_of_mem_drop (by rw [hD]; exact hb))
    rw [hD]
    unfold spD
    cases hi : ixN 47 D with
    | none =>
      have hn := ixN_none hi
      rw [pieces_no 47 D [] hn, if_pos (.inr (by rw [scan_none D 0 (-1) hn]; decide))]
    | some n =>
      obtain ⟨h1, h2, h3⟩ := ixN_some hi
      have hpc := pieces_append 47 (D.take n) [] (D.drop (n + 1)) h1
      rw [← h2, List.nil_append] at hpc
      have hsc := scan_slash (D.take n) (D.drop (n + 1)) 0 (-1) (by omega) h1
      rw [← h2, List.length_take, Nat.min_eq_left (by omega)] at hsc
      rw [hpc, hsc]
      dsimp only
      rw [show (0 + (n : Int)).toNat = n by omega]
      obtain ⟨x, hx⟩ : ∃ x, D.take n = x := ⟨_, rfl⟩
      obtain ⟨y, hy⟩ : ∃ y, D.drop (n + 1) = y := ⟨_, rfl⟩
      have hx43 : ∀ b ∈ x, b ≠ 43 := fun b hb => hD43 b (List.mem_of_mem_take (by rw [hx]; exact hb))
      have hy43 : ∀ b ∈ y, b ≠ 43 := fun b hb => hD43 b (List.mem_of_mem_drop (by rw [hy]; exact hb))
      have hxn : x.length = n := by rw [← hx, List.length_take]; omega
      have htk : ∀ k, k ≤ n → D.take k = x.take k := fun k hk => by rw [← hx, List.take_take, Nat.min_eq_left hk]
      rw [hx, hy]
      rw [hx] at h1
      by_cases hs : (47 : UInt8) ∈ y
      · obtain ⟨y1, y2, L, he⟩ := pieces_two' hs
        rw [he]
        dsimp only
        split
        · rfl
        · exact (threeS_y hs).symm
      · have hyn : ∀ b ∈ y, b ≠ 47 := fun b hb e => hs (e ▸ hb)
        rw [pieces_no 47 y [] hyn, List.nil_append]
        dsimp only
        cases hk : ixN 45 x with
        | none =>
          have hn := ixN_none hk
          rw [pieces_no 45 x [] hn, scan_nodash x 0 hn h1, if_pos (.inl (by decide))]
        | some k =>
          obtain ⟨g1, g2, g3⟩ := ixN_some hk
          have hpc2 := pieces_append 45 (x.take k) [] (x.drop (k + 1)) g1
          rw [← g2, List.nil_append] at hpc2
          have hsd := scan_dash (x.take k) (x.drop (k + 1)) 0 (by omega) g1 (by rw [← g2]; exact h1)
          rw [← g2, List.length_take, Nat.min_eq_left (by omega)] at hsd
          rw [hpc2, hsd, if_neg (by omega), show (0 + (k : Int)).toNat = k by omega, htk k (by omega)]
          by_cases hd : (45 : UInt8) ∈ x.drop (k + 1)
          · obtain ⟨q1, q2, L, he⟩ := pieces_two' hd
            rw [he]
            dsimp only
            exact (threeS_q (figO_bad hd (by decide))).symm
          · have hqn : ∀ b ∈ x.drop (k + 1), b ≠ 45 := fun b hb e => hd (e ▸ hb)
            rw [pieces_no 45 _ [] hqn, List.nil_append]
            dsimp only
            exact three_is (fun b hb => ⟨g1 b hb, hx43 b (List.mem_of_mem_take hb)⟩) (fun b hb => ⟨hqn b hb, hx43 b (List.mem_of_mem_drop hb)⟩) hy43
  · rw [if_neg hu, if_neg hu]
end Go.Proofs.YtkdmdoflfaldiaaDoor.Given
