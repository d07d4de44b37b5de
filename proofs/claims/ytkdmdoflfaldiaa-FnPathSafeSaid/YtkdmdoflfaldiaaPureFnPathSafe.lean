/- FnPathSafe: a path with a piece of two points is refused, another one is told cleaned, without slashes about it; for every text within the law's own bound. -/
import Derived.Test.YtkdmdoflfaldiaaPurePs
namespace Go.Proofs.Ytkdmdoflfaldiaa.Pure
open Go.RowKit Go.Lib Go.Proofs.Ytkdmdoflfaldiaa.PT Go.Proofs.Ytkdmdoflfaldiaa.PurePs Go.Proofs.YtkdmdoflfaldiaaW.PrintWords Go.Proofs.YtkdmdoflfaldiaaW.PrintLast Go.Proofs.Ytkdmdoflfaldiaa.Pl Go.Proofs.Ytkdmdoflfaldiaa.Given
set_option linter.unusedVariables false
set_option linter.unusedSimpArgs false

theorem ext_ext (s : ByteArray) (a : Nat) (h : a < s.size) : (s.extract a s.size).extract 1 (s.extract a s.size).size = s.extract (a + 1) s.size := by
  apply bt_ext
  · simp only [ByteArray.size_extract]; omega
  · intro i hi
    simp only [ByteArray.size_extract] at hi
    have hz : (s.extract a s.size).size = s.size - a := by rw [ByteArray.size_extract]; omega
    rw [bt_extract _ _ _ _ (by rw [hz]; omega) (Nat.le_refl _), bt_extract _ _ _ _ (by omega) (Nat.le_refl _), bt_extract _ _ _ _ (by omega) (Nat.le_refl _)]
    congr 2
    omega
theorem ext_all (s : ByteArray) : s.extract 0 s.size = s := by
  apply bt_ext
  · rw [ByteArray.size_extract]; omega
  · intro i hi
    rw [ByteArray.size_extract] at hi
    rw [bt_extract _ _ _ _ (by omega) (Nat.le_refl _), Nat.zero_add]

def dotless (t : ByteArray) : ByteArray := if t.toList = ([46] : List UInt8) then ⟨#[]⟩ else t
theorem dotless_of (t : ByteArray) : (if t.toList = ([46] : List UInt8) then some ((⟨#[]⟩ : ByteArray), true) else some (t, true)) = some (dotless t, true) := by
  unfold dotless
  split <;> rfl

theorem safe_is (c : ByteArray) : ∀ (n i K : Nat), i + n = c.size → n + 1 ≤ K → spec_PathSafe.l0 K (c.extract i c.size) = some (dotless (c.extract (lead c n i) c.size), true)
  | 0, i, K, h, hK => by
    obtain ⟨K, rfl⟩ : ∃ q, K = q + 1 := ⟨K - 1, by omega⟩
    have hz : (c.extract i c.size).size = 0 := by rw [ByteArray.size_extract]; omega
    simp only [spec_PathSafe.l0, lead]
    rw [if_pos (tl_nil.2 hz), dotless_of]
  | n + 1, i, K, h, hK => by
    obtain ⟨K, rfl⟩ : ∃ q, K = q + 1 := ⟨K - 1, by omega⟩
    have hz : (c.extract i c.size).size = n + 1 := by rw [ByteArray.size_extract]; omega
    have hb : bt (c.extract i c.size) 0 = bt c i := by
      have := bt_extract c i c.size 0 (by omega) (Nat.le_refl _)
      simpa using this
    simp only [spec_PathSafe.l0, lead]
    rw [if_neg (fun e => by have := tl_nil.1 e; omega), if_pos (by omega), hb, if_pos (show i < c.size by omega)]
    by_cases e : bt c (i : Int) = 47
    · rw [if_pos e, if_pos e, if_pos (by omega), ext_ext c i (by omega)]
      exact safe_is c n (i + 1) K (by omega) (by omega)
    · rw [if_neg e, if_neg e, dotless_of]

theorem lead_le (c : ByteArray) : ∀ (n i j : Nat), i ≤ j → j < c.size → ¬ bt c (j : Int) = 47 → lead c n i ≤ j
  | 0, i, j, h1, _, _ => h1
  | n + 1, i, j, h1, h2, h3 => by
    unfold lead
    rw [if_pos (by omega)]
    split
    · rename_i e
      rcases Nat.eq_or_lt_of_le h1 with rfl | h1
      · exact absurd e h3
      · exact lead_le c n (i + 1) j h1 h2 h3
    · exact h1

theorem cat_last (ro : Bool) (M : Nat) : ∀ (l : List (List UInt8)) (e : List UInt8), GoodE ro M e → (∀ x ∈ l, GoodE ro M x) → ∃ x, (e ++ cat l).getLast? = some x ∧ x ≠ 47
  | [], e, he, _ => by
    have h0 : cat [] = [] := rfl
    rw [h0, List.append_nil]
    refine ⟨e.getLast he.2.2.1, List.getLast?_eq_some_getLast he.2.2.1, ?_⟩
    intro h
    exact he.2.1 (h ▸ List.getLast_mem he.2.2.1)
  | a :: l, e, he, h => by
    obtain ⟨x, h1, h2⟩ := cat_last ro M l a (h a (by simp)) (fun y hy => h y (by simp [hy]))
    refine ⟨x, ?_, h2⟩
    have h0 : cat (a :: l) = [47] ++ (a ++ cat l) := rfl
    rw [h0, ← List.append_assoc, List.getLast?_append, h1]
    rfl

theorem fin_last (ro : Bool) (M : Nat) (es : List (List UInt8)) (h : ∀ x ∈ es, GoodE ro M x) : fin ro (([47] : List UInt8).intercalate es) = B [47] ∨ ∃ l x, fin ro (([47] : List UInt8).intercalate es) = B l ∧ l.getLast? = some x ∧ x ≠ 47 := by
  cases es with
  | nil =>
    cases ro with
    | true => exact .inl rfl
    | false => exact .inr ⟨[46], 46, rfl, rfl, by decide⟩
  | cons e l =>
    obtain ⟨x, h1, h2⟩ := cat_last ro M l e (h e (by simp)) (fun y hy => h y (by simp [hy]))
    rw [inter_cat]
    cases ro with
    | true =>
      refine .inr ⟨47 :: (e ++ cat l), x, rfl, ?_, h2⟩
      rw [show 47 :: (e ++ cat l) = [47] ++ (e ++ cat l) from rfl, List.getLast?_append, h1]
      rfl
    | false =>
      have hne : e ++ cat l ≠ [] := fun h0 => by rw [h0] at h1; cases h1
      refine .inr ⟨e ++ cat l, x, ?_, h1, h2⟩
      unfold fin
      rw [if_neg (by decide), if_neg hne]

theorem clean_last (s : ByteArray) : cleanB s = B [47] ∨ ∃ l x, cleanB s = B l ∧ l.getLast? = some x ∧ x ≠ 47 := by
  have hel := els_len s.data.toList
  have hcl : cleanB s = B (Pa.cleanEls s.data.toList) := rfl
  have hg : ∀ ro, ∀ x ∈ ((Pa.els s.data.toList).foldl (Pa.cleanStep ro) []).reverse, GoodE ro s.data.toList.length x := fun ro x hx =>
    (fold_good ro s.data.toList.length (Pa.els s.data.toList) [] (by simp) hel.2).1 x (List.mem_reverse.1 hx)
  rw [hcl]
  by_cases h0 : s.data.toList = []
  · rw [h0]
    exact .inr ⟨[46], 46, rfl, rfl, by decide⟩
  · cases hr : (s.data.toList.head? == some 47) with
    | true =>
      rw [Pa.cleanEls_abs _ h0 hr]
      have := fin_last true _ _ (hg true)
      exact this
    | false =>
      rw [Pa.cleanEls_rel _ h0 hr]
      have := fin_last false _ _ (hg false)
      unfold fin at this
      rw [if_neg (by decide)] at this
      rw [apply_ite B]
      exact this

theorem rlen_full (t : ByteArray) (h : t.size = 0 ∨ ¬ bt t ((t.size - 1 : Nat) : Int) = 47) : cutR t = t := by
  have h1 : rlen t t.size = t.size := by
    cases hz : t.size with
    | zero => rfl
    | succ n =>
      unfold rlen
      rw [hz] at h
      have h' := h.resolve_left (by omega)
      rw [Nat.add_sub_cancel] at h'
      rw [if_neg h']
  unfold cutR
  rw [h1, ext_all]

theorem cl_is (s : ByteArray) : cl s = dotless (cutL (cleanB s)) := by
  have h : cutR (cutL (cleanB s)) = cutL (cleanB s) := by
    apply rlen_full
    have hz : (cutL (cleanB s)).size = (cleanB s).size - lead (cleanB s) (cleanB s).size 0 := by unfold cutL; rw [ByteArray.size_extract]; omega
    rcases clean_last s with h | ⟨l, x, h, h1, h2⟩
    · rw [h]
      exact .inl rfl
    · have hl : l ≠ [] := fun h0 => by rw [h0] at h1; cases h1
      have hp : 0 < l.length := List.length_pos_iff.2 hl
      have hsz : (cleanB s).size = l.length := by rw [h]; rfl
      have hbt : ¬ bt (cleanB s) (((cleanB s).size - 1 : Nat) : Int) = 47 := by
        rw [hsz, h, bt_nat (B l) (l.length - 1) (by rw [B_size]; omega)]
        have e1 : (B l)[l.length - 1]'(by rw [B_size]; omega) = x := by
          rw [List.getLast?_eq_getElem?] at h1
          have := (List.getElem?_eq_some_iff.1 h1).2
          rw [← this]
          simp [B, ByteArray.getElem_eq_getElem_data]
        rw [e1]
        intro h3
        exact h2 (UInt8.toNat_inj.1 (by have : (47 : UInt8).toNat = 47 := rfl; omega))
      have hle := lead_le (cleanB s) (cleanB s).size 0 ((cleanB s).size - 1) (by omega) (by omega) hbt
      right
      unfold cutL at hz ⊢
      rw [bt_extract _ _ _ _ (by omega) (Nat.le_refl _), hz, show lead (cleanB s) (cleanB s).size 0 + ((cleanB s).size - lead (cleanB s) (cleanB s).size 0 - 1) = (cleanB s).size - 1 by omega]
      exact hbt
  unfold cl dotless
  rw [h]

theorem spec_is (s : ByteArray) (hs : s.size ≤ 100000) (K : Nat) (hK : 500000 ≤ K) : spec_PathSafe.f K s = some (if dd s s.size 0 0 = true then (⟨#[]⟩, false) else (cl s, true)) := by
  unfold spec_PathSafe.f spec_DotDot.f
  have hd := dotdot_is s hs s.size 0 0 K (by omega) (Nat.le_refl _) (by omega)
  rw [show ((0 : Nat) : Int) = 0 from rfl] at hd
  rw [hd, Option.bind_some]
  split
  · rfl
  · rw [clean_is s hs K hK, Option.bind_some, cl_is]
    have hcs : (cleanB s).size ≤ 100001 := by
      have := cleanB_size s.data.toList
      have h1 : s.data.toList.length = s.size := by simp
      show (Pa.cleanEls s.data.toList).toArray.size ≤ _
      rw [List.size_toArray]
      omega
    have := safe_is (cleanB s) (cleanB s).size 0 K (by omega) (by omega)
    rw [ext_all] at this
    exact this

theorem impl_is (s : ByteArray) (hs : s.size ≤ 100000) : impl_PathClean.f s = some (if dd s s.size 0 0 = true then (⟨#[]⟩, false) else (cl s, true)) := by
  unfold impl_PathClean.f
  rw [if_pos hs, any_dd]

def ex1 : ByteArray := ⟨#[47, 97, 47, 47, 98, 47, 46, 47, 99, 47]⟩
theorem ex1_cl : cl ex1 = B [97, 47, 98, 47, 99] := by
  have h : cutR (cutL (cleanB ex1)) = B [97, 47, 98, 47, 99] := by decide
  unfold cl
  rw [h, B_tl, if_neg (by decide)]
def nb (s : ByteArray) : Nat → Nat → Nat → Bool
  | 0, a, i => decide (i - a ≠ 2)
  | n + 1, a, i => if sepB s i then (decide (i - a ≠ 2) && nb s n (i + 1) (i + 1)) else nb s n a (i + 1)
theorem isD_no (s : ByteArray) (a i : Nat) (hi : i ≤ s.size) (h : decide (i - a ≠ 2) = true) : isD s a i = false := by
  have h0 := of_decide_eq_true h
  unfold isD
  rw [beq_eq_false_iff_ne]
  intro e
  rw [tl_lit] at e
  have h1 : (s.extract a i).size = 2 := by rw [e]; rfl
  rw [ByteArray.size_extract] at h1
  omega
theorem nb_dd (s : ByteArray) : ∀ (n a i : Nat), i + n = s.size → nb s n a i = true → dd s n a i = false
  | 0, a, i, h, hb => isD_no s a i (by omega) hb
  | n + 1, a, i, h, hb => by
    unfold nb at hb
    unfold dd
    split at hb
    · rename_i hs
      rw [Bool.and_eq_true] at hb
      rw [if_pos hs, isD_no s a i (by omega) hb.1, nb_dd s n _ _ (by omega) hb.2]
      rfl
    · rename_i hs
      rw [if_neg hs]
      exact nb_dd s n _ _ (by omega) hb
theorem ex1_dd : dd ex1 ex1.size 0 0 = false := nb_dd ex1 _ _ _ (by decide) (by decide)

theorem FnPathSafe : laws_FnPathSafe.Pure := by
  intro a0 _
  refine ⟨500000, ?_⟩
  unfold laws_FnPathSafe.f
  by_cases h1 : (a0.size : Int) > 2147483647
  · rw [if_pos h1]
  · rw [if_neg h1]
    by_cases h2 : (a0.size : Int) > 5000
    · rw [if_pos h2]
    · rw [if_neg h2, impl_is a0 (by omega), Option.bind_some, spec_is a0 (by omega) 500000 (Nat.le_refl _), Option.bind_some]
      have h3 := impl_is ex1 (by decide)
      rw [ex1_dd, if_neg (by decide), ex1_cl] at h3
      unfold ex1 at h3
      rw [h3, Option.bind_some]
      cases dd a0 a0.size 0 0 <;> simp [B_tl]
end Go.Proofs.Ytkdmdoflfaldiaa.Pure
