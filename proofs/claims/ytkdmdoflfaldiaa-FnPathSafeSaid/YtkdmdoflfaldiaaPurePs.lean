/- Facts of the law on paths that are cleaned: the pieces between separators, the cleaned path by its elements, without slashes about it. No conditions beyond those that each states. -/
import Derived.Test.YtkdmdoflfaldiaaPTx3
import Derived.Test.YtkdmdoflfaldiaaPl
namespace Go.Proofs.Ytkdmdoflfaldiaa.PurePs
open Go.RowKit Go.Lib Go.Proofs.Ytkdmdoflfaldiaa.PT Go.Proofs.YtkdmdoflfaldiaaW.PrintWords Go.Proofs.YtkdmdoflfaldiaaW.PrintLast Go.Proofs.Ytkdmdoflfaldiaa.Pl Go.Proofs.Ytkdmdoflfaldiaa.Given
set_option linter.unusedVariables false
set_option linter.unusedSimpArgs false

/-! the pieces between slashes and backslashes -/
def sepB (s : ByteArray) (i : Nat) : Prop := bt s i = 47 ∨ bt s i = 92
instance (s : ByteArray) (i : Nat) : Decidable (sepB s i) := inferInstanceAs (Decidable (_ ∨ _))
def isD (s : ByteArray) (a b : Nat) : Bool := (s.extract a b).toList == ([46, 46] : List UInt8)
/-- Whether a piece is two points: n places are left from i on, the piece began at a. -/
def dd (s : ByteArray) : Nat → Nat → Nat → Bool
  | 0, a, i => isD s a i
  | n + 1, a, i => if sepB s i then (isD s a i || dd s n (i + 1) (i + 1)) else dd s n a (i + 1)

theorem isD_nil (s : ByteArray) (a : Nat) : isD s a a = false := by
  unfold isD
  rw [beq_eq_false_iff_ne]
  intro h
  have h1 : (s.extract a a).size = 0 := by rw [ByteArray.size_extract]; omega
  rw [size_nil.1 h1, tl_data] at h
  exact absurd h (by decide)

theorem dd_skip (s : ByteArray) (a : Nat) : ∀ (q n i : Nat), (∀ j, i ≤ j → j < i + q → ¬ sepB s j) → dd s (n + q) a i = dd s n a (i + q)
  | 0, n, i, _ => rfl
  | q + 1, n, i, h => by
    rw [← Nat.add_assoc]
    simp only [dd]
    rw [if_neg (h i (Nat.le_refl _) (by omega)), dd_skip s a q n (i + 1) (fun j h1 h2 => h j (by omega) (by omega))]
    congr 1
    omega

def anyD (s : ByteArray) (l : List (Nat × Nat)) : Bool := l.any fun x => isD s x.1 x.2

theorem spans_dd (s : ByteArray) : ∀ (f pos : Nat) (st : Option Nat) (acc : List (Nat × Nat)), s.size ≤ pos + f → pos ≤ s.size → 
    anyD s (closeSpans s (spansFromP seps s f pos st acc)) = (anyD s acc || dd s (s.size - pos) (st.getD pos) pos)
  | f, pos, st, acc, hf, hp => by
    by_cases hlt : pos < s.size
    · obtain ⟨f, rfl⟩ : ∃ q, f = q + 1 := ⟨f - 1, by omega⟩
      have hw := width_pos s pos hlt
      have hz := decode_size s pos hlt
      obtain ⟨n, hn⟩ : ∃ n, s.size - pos = n + 1 := ⟨s.size - pos - 1, by omega⟩
      by_cases hsep : sepB s pos
      · have hone : Utf8.decode s pos = ((bt s pos).toNat, 1) := decode_one s pos hlt (by rcases hsep with h | h <;> omega)
        have hsp : seps (Utf8.decode s pos).1 = true := by
          rw [hone]
          unfold seps
          rcases hsep with h | h <;> rw [h] <;> rfl
        rw [hn]
        simp only [spansFromP, dd]
        rw [if_pos hlt, if_pos hsp, if_pos hsep]
        have e2 : (Utf8.decode s pos).2 = 1 := by rw [hone]
        rw [e2]
        cases st with
        | none =>
          have ih := spans_dd s f (pos + 1) none acc (by omega) (by omega)
          simp only [Option.getD_none] at ih ⊢
          rw [ih, isD_nil, Bool.false_or, show s.size - (pos + 1) = n by omega]
        | some a =>
          have ih := spans_dd s f (pos + 1) none (acc ++ [(a, pos)]) (by omega) (by omega)
          simp only [Option.getD_none, Option.getD_some] at ih ⊢
          rw [ih, show s.size - (pos + 1) = n by omega]
          simp [anyD, Bool.or_assoc]
      · have hns : ∀ j, pos ≤ j → j < pos + (Utf8.decode s pos).2 → ¬ sepB s j := by
          intro j h1 h2
          rcases Nat.eq_or_lt_of_le h1 with rfl | h1
          · exact hsep
          · obtain ⟨h3, h4⟩ := decode_cont s pos j h1 h2
            have h5 := bt_get s j h3
            unfold sepB
            omega
        have hsp : seps (Utf8.decode s pos).1 = false := by
          have h1 := decode_small s pos hlt 47 (by omega)
          have h2 := decode_small s pos hlt 92 (by omega)
          unfold seps
          unfold sepB at hsep
          rw [Bool.or_eq_false_iff, beq_eq_false_iff_ne, beq_eq_false_iff_ne]
          exact ⟨fun e => hsep (.inl (h1.1 e)), fun e => hsep (.inr (h2.1 e))⟩
        have hk := dd_skip s (st.getD pos) (Utf8.decode s pos).2 (s.size - (pos + (Utf8.decode s pos).2)) pos hns
        rw [show s.size - (pos + (Utf8.decode s pos).2) + (Utf8.decode s pos).2 = s.size - pos by omega] at hk
        rw [hk]
        simp only [spansFromP]
        rw [if_pos hlt, if_neg (by rw [hsp]; decide)]
        cases st with
        | none => exact spans_dd s f _ (some pos) acc (by omega) hz
        | some a => exact spans_dd s f _ (some a) acc (by omega) hz
    · obtain rfl : pos = s.size := by omega
      rw [spansFromP_end seps s f s.size st acc hlt, Nat.sub_self]
      unfold closeSpans dd
      cases st with
      | none => simp [isD_nil]
      | some a => simp [anyD]

theorem any_dd (s : ByteArray) : (goFieldsP seps s).any (fun x => dots.toList == x.toList) = dd s s.size 0 0 := by
  have h := spans_dd s s.size 0 none [] (by omega) (by omega)
  simp only [Option.getD_none, Nat.sub_zero] at h
  unfold goFieldsP spansOfP
  rw [List.any_map]
  have e : (fun x : ByteArray => dots.toList == x.toList) ∘ (fun x : Nat × Nat => s.extract x.1 x.2) = fun x => isD s x.1 x.2 := by
    funext x
    have hd : dots.toList = ([46, 46] : List UInt8) := by rw [tl_data]; rfl
    simp only [Function.comp_apply, isD, hd]
    exact Bool.eq_iff_iff.2 ⟨fun h => beq_iff_eq.2 (beq_iff_eq.1 h).symm, fun h => beq_iff_eq.2 (beq_iff_eq.1 h).symm⟩
  rw [e]
  have h' : (anyD s (closeSpans s (spansFromP seps s s.size 0 none []))) = dd s s.size 0 0 := by rw [h]; simp [anyD]
  exact h'

theorem dotdot_is (s : ByteArray) (hs : s.size ≤ 100000) : ∀ (n a i K : Nat), i + n = s.size → a ≤ i → 2 * n + 4 ≤ K → spec_DotDot.l0 K s a i = some (dd s n a i)
  | 0, a, i, K, h, ha, hK => by
    obtain ⟨K, rfl⟩ : ∃ q, K = q + 3 := ⟨K - 3, by omega⟩
    have hw : wrap64 ((i : Int) + 1) = ((i + 1 : Nat) : Int) := by rw [wrap64_id (by omega) (by omega)]; omega
    simp only [spec_DotDot.l0, spec_DotDot.j1, dd]
    rw [if_pos (by omega), if_pos (by omega), if_pos trivial, if_pos (by omega), if_pos (by omega), if_pos (by omega)]
    unfold isD
    simp only [Int.toNat_natCast]
    by_cases e : (s.extract a i).toList = ([46, 46] : List UInt8)
    · rw [if_pos e, e]; rfl
    · rw [if_neg e, beq_eq_false_iff_ne.2 e, hw, if_neg (by omega)]
  | n + 1, a, i, K, h, ha, hK => by
    obtain ⟨K, rfl⟩ : ∃ q, K = q + 2 := ⟨K - 2, by omega⟩
    have hw : wrap64 ((i : Int) + 1) = ((i + 1 : Nat) : Int) := by rw [wrap64_id (by omega) (by omega)]; omega
    have ih1 := dotdot_is s hs n (i + 1) (i + 1) K (by omega) (by omega) (by omega)
    have ih2 := dotdot_is s hs n a (i + 1) K (by omega) (by omega) (by omega)
    have yes : spec_DotDot.j1 (K + 1) s a i true = some (isD s a i || dd s n (i + 1) (i + 1)) := by
      simp only [spec_DotDot.j1]
      rw [if_pos trivial, if_pos (by omega), if_pos (by omega), if_pos (by omega), hw, ih1]
      simp only [Int.toNat_natCast]
      unfold isD
      by_cases e : (s.extract a i).toList = ([46, 46] : List UInt8)
      · rw [if_pos e, e]; rfl
      · rw [if_neg e, beq_eq_false_iff_ne.2 e, Bool.false_or]
    simp only [spec_DotDot.l0, dd]
    rw [if_pos (by omega), if_neg (by omega), if_pos (by omega), if_pos (by omega)]
    by_cases e1 : bt s (i : Int) = 47
    · rw [if_pos e1, if_pos (.inl e1), yes]
    · rw [if_neg e1]
      by_cases e2 : bt s (i : Int) = 92
      · rw [if_pos (.inr e2), beq_iff_eq.2 e2, yes]
      · rw [if_neg (by unfold sepB; omega), beq_eq_false_iff_ne.2 e2]
        simp only [spec_DotDot.j1]
        rw [if_neg (by decide), hw, ih2]

/-! the elements between slashes -/
def B (l : List UInt8) : ByteArray := ⟨l.toArray⟩
def hd1 (p : List UInt8) : List (List UInt8) → List (List UInt8)
  | e :: r => (p ++ e) :: r
  | [] => [p]
theorem els_ne (l : List UInt8) : Pa.els l ≠ [] := by
  cases l with
  | nil => simp [Pa.els]
  | cons c t =>
    unfold Pa.els
    split
    · simp
    · split <;> simp
theorem els_cons (c : UInt8) (t : List UInt8) (p : List UInt8) (h : c ≠ 47) : hd1 p (Pa.els (c :: t)) = hd1 (p ++ [c]) (Pa.els t) := by
  conv => lhs; unfold Pa.els
  rw [if_neg h]
  cases he : Pa.els t with
  | nil => exact absurd he (els_ne t)
  | cons e r => simp [hd1]
theorem els_slash (t : List UInt8) (p : List UInt8) : hd1 p (Pa.els (47 :: t)) = p :: Pa.els t := by
  conv => lhs; unfold Pa.els
  simp [hd1]
theorem els_hd (l : List UInt8) : hd1 [] (Pa.els l) = Pa.els l := by
  cases he : Pa.els l with
  | nil => exact absurd he (els_ne l)
  | cons e r => simp [hd1]

theorem ext_data (s : ByteArray) (a b : Nat) (hb : b ≤ s.size) : s.extract a b = B ((s.data.toList.take b).drop a) := by
  apply ByteArray.ext
  unfold B
  rw [ByteArray.data_extract]
  apply Array.toList_inj.1
  simp [List.drop_take]

theorem bt_data (s : ByteArray) (i : Nat) (h : i < s.size) (h' : i < s.data.toList.length) (c : UInt8) : bt s i = (c.toNat : Int) ↔ s.data.toList[i] = c := by
  rw [bt_nat s i h]
  have e : s.data.toList[i] = s[i] := by simp [ByteArray.getElem_eq_getElem_data]
  rw [e]
  constructor
  · intro h; exact UInt8.toNat_inj.1 (by omega)
  · intro h; rw [h]

theorem pieces_is (s : ByteArray) (hs : s.size ≤ 100000) : ∀ (n a i K : Nat) (out : List ByteArray), i + n = s.size → a ≤ i → n + 1 ≤ K → out.length ≤ i →
    spec_slashPieces.l0 K s out a i = some (out ++ (hd1 ((s.data.toList.take i).drop a) (Pa.els (s.data.toList.drop i))).map B)
  | 0, a, i, K, out, h, ha, hK, ho => by
    obtain ⟨K, rfl⟩ : ∃ q, K = q + 1 := ⟨K - 1, by omega⟩
    simp only [spec_slashPieces.l0]
    have hz : s.data.toList.length = s.size := by simp
    have hd : s.data.toList.drop i = [] := List.drop_eq_nil_of_le (by omega)
    rw [if_neg (by omega), if_pos (by omega), if_pos (by omega), if_pos (by omega), hd]
    simp only [Int.toNat_natCast, Pa.els, hd1, List.append_nil, List.map_cons, List.map_nil]
    rw [ext_data s a s.size (Nat.le_refl _), show i = s.size by omega]
  | n + 1, a, i, K, out, h, ha, hK, ho => by
    obtain ⟨K, rfl⟩ : ∃ q, K = q + 1 := ⟨K - 1, by omega⟩
    have hz : s.data.toList.length = s.size := by simp
    have hi : i < s.data.toList.length := by omega
    have hw : wrap64 ((i : Int) + 1) = ((i + 1 : Nat) : Int) := by rw [wrap64_id (by omega) (by omega)]; omega
    have hb := bt_data s i (by omega) hi 47
    simp only [spec_slashPieces.l0]
    rw [if_pos (by omega), if_pos (by omega), List.drop_eq_getElem_cons hi]
    by_cases e : bt s (i : Int) = 47
    · have e' := hb.1 e
      rw [if_pos e, if_pos (by omega), if_pos (by omega), if_pos (by omega), if_pos (by omega), hw]
      rw [pieces_is s hs n (i + 1) (i + 1) K _ (by omega) (Nat.le_refl _) (by omega) (by simp; omega), e', els_slash]
      simp only [Int.toNat_natCast]
      rw [ext_data s a i (by omega), show (s.data.toList.take (i + 1)).drop (i + 1) = [] from List.drop_eq_nil_of_le (by simp; omega), els_hd]
      simp
    · have e' : s.data.toList[i] ≠ 47 := fun h => e (hb.2 h)
      rw [if_neg e, hw, pieces_is s hs n a (i + 1) K out (by omega) (by omega) (by omega) (by omega), els_cons _ _ _ e', List.take_succ_eq_append_getElem hi, List.drop_append_of_le_length (by simp; omega)]
/-! facts on elements -/
theorem els_len (l : List UInt8) : (Pa.els l).length ≤ l.length + 1 ∧ ∀ e ∈ Pa.els l, e.length ≤ l.length ∧ 47 ∉ e := by
  induction l with
  | nil => simp [Pa.els]
  | cons c t ih =>
    by_cases hc : c = 47
    · subst hc
      have h : Pa.els (47 :: t) = [] :: Pa.els t := by simp [Pa.els]
      rw [h]
      refine ⟨by simp; omega, ?_⟩
      intro e he
      rcases List.mem_cons.1 he with rfl | he
      · simp
      · have := ih.2 e he
        exact ⟨by simp; omega, this.2⟩
    · cases he' : Pa.els t with
      | nil => exact absurd he' (els_ne t)
      | cons a r =>
        have h : Pa.els (c :: t) = (c :: a) :: r := by simp [Pa.els, hc, he']
        rw [h]
        rw [he'] at ih
        refine ⟨by have := ih.1; simp at this ⊢; omega, ?_⟩
        intro e he
        rcases List.mem_cons.1 he with rfl | he
        · have := ih.2 a (by simp)
          refine ⟨by simp; omega, ?_⟩
          simp only [List.mem_cons, not_or]
          exact ⟨fun h => hc h.symm, this.2⟩
        · have := ih.2 e (by simp [he])
          exact ⟨by simp; omega, this.2⟩

def GoodE (ro : Bool) (M : Nat) (e : List UInt8) : Prop := e.length ≤ M ∧ 47 ∉ e ∧ e ≠ [] ∧ e ≠ [46] ∧ (ro = true → e ≠ [46, 46])
theorem step_good (ro : Bool) (M : Nat) (st : List (List UInt8)) (e : List UInt8) (h : ∀ x ∈ st, GoodE ro M x) (he : e.length ≤ M ∧ 47 ∉ e) :
    (∀ x ∈ Pa.cleanStep ro st e, GoodE ro M x) ∧ (Pa.cleanStep ro st e).length ≤ st.length + 1 := by
  unfold Pa.cleanStep
  split
  · exact ⟨h, by omega⟩
  · rename_i h1
    rw [not_or] at h1
    split
    · rename_i h2
      split
      · rename_i x r
        split
        · rename_i h3
          refine ⟨?_, by simp⟩
          intro y hy
          rcases List.mem_cons.1 hy with rfl | hy
          · have := h x (by simp)
            exact ⟨he.1, he.2, h1.1, h1.2, fun hr => absurd h3 (this.2.2.2.2 hr)⟩
          · exact h y hy
        · exact ⟨fun y hy => h y (by simp [hy]), by simp; omega⟩
      · split
        · exact ⟨by simp, by simp⟩
        · rename_i h3
          refine ⟨?_, by simp⟩
          intro y hy
          rw [List.mem_singleton.1 hy]
          exact ⟨he.1, he.2, h1.1, h1.2, fun hr => absurd hr h3⟩
    · rename_i h2
      refine ⟨?_, by simp⟩
      intro y hy
      rcases List.mem_cons.1 hy with rfl | hy
      · exact ⟨he.1, he.2, h1.1, h1.2, fun _ => h2⟩
      · exact h y hy
theorem fold_good (ro : Bool) (M : Nat) : ∀ (ps st : List (List UInt8)), (∀ x ∈ st, GoodE ro M x) → (∀ e ∈ ps, e.length ≤ M ∧ 47 ∉ e) →
    (∀ x ∈ ps.foldl (Pa.cleanStep ro) st, GoodE ro M x) ∧ (ps.foldl (Pa.cleanStep ro) st).length ≤ st.length + ps.length
  | [], st, h, _ => ⟨h, by simp⟩
  | e :: ps, st, h, hp => by
    have h1 := step_good ro M st e h (hp e (by simp))
    have h2 := fold_good ro M ps _ h1.1 (fun x hx => hp x (by simp [hx]))
    refine ⟨h2.1, ?_⟩
    have := h2.2
    simp only [List.foldl_cons, List.length_cons]
    omega

/-! the elements joined -/
theorem B_tl (l : List UInt8) : (B l).toList = l := by rw [tl_data]; rfl
theorem B_size (l : List UInt8) : (B l).size = l.length := rfl
theorem B_app (a b : List UInt8) : B a ++ B b = B (a ++ b) := by
  apply ByteArray.ext
  simp [B]
def cat (l : List (List UInt8)) : List UInt8 := (l.map fun e => 47 :: e).flatten
theorem inter_cat (e : List UInt8) (l : List (List UInt8)) : ([47] : List UInt8).intercalate (e :: l) = e ++ cat l := by
  induction l generalizing e with
  | nil => simp [List.intercalate, cat]
  | cons a l ih =>
    have := ih a
    simp only [List.intercalate, List.intersperse, List.flatten_cons, cat, List.map_cons] at this ⊢
    rw [this]
    simp
theorem rd_B (l : List (List UInt8)) (i : Nat) (h : i < l.length) : rdOf ByteArray.empty (l.map B) (i : Int) = B l[i] := by simp [rdOf, h]
def fin (ro : Bool) (o : List UInt8) : ByteArray := if ro then B (47 :: o) else if o = [] then B [46] else B o

theorem join_is (ro : Bool) (es : List (List UInt8)) (hl : es.length ≤ 100001) (he : ∀ e ∈ es, e.length ≤ 100000) : ∀ (m i K : Nat) (o : List UInt8), i + m = es.length → m + 1 ≤ K → o.length ≤ i * 100001 → 0 < i →
    spec_PathClean.l1 K ro (B o) (es.map B) es.length i = some (fin ro (o ++ cat (es.drop i)))
  | 0, i, K, o, h, hK, ho, hi => by
    obtain ⟨K, rfl⟩ : ∃ q, K = q + 1 := ⟨K - 1, by omega⟩
    have hd : es.drop i = [] := List.drop_eq_nil_of_le (by omega)
    have hz := B_size o
    simp only [spec_PathClean.l1]
    rw [if_neg (by omega), hd]
    have hc : o ++ cat [] = o := by simp [cat]
    rw [hc]
    unfold fin
    cases ro with
    | true =>
      rw [if_pos rfl, if_pos (by omega), if_pos rfl]
      exact congrArg some (B_app [47] o)
    | false =>
      simp only [Bool.false_eq_true, if_false, B_tl]
      by_cases e : o = []
      · rw [if_pos e, if_pos e]; rfl
      · rw [if_neg e, if_neg e]
  | m + 1, i, K, o, h, hK, ho, hi => by
    obtain ⟨K, rfl⟩ : ∃ q, K = q + 1 := ⟨K - 1, by omega⟩
    have hi' : i < es.length := by omega
    have hz := B_size o
    have hw : wrap64 ((i : Int) + 1) = ((i + 1 : Nat) : Int) := by rw [wrap64_id (by omega) (by omega)]; omega
    have h1 : (B o ++ (⟨#[47]⟩ : ByteArray)) = B (o ++ [47]) := B_app o [47]
    have h2 := he _ (List.getElem_mem hi')
    have h3 := B_size es[i]
    have h4 := B_size (o ++ [47])
    rw [List.length_append, List.length_singleton] at h4
    have ih := join_is ro es hl he m (i + 1) K (o ++ [47] ++ es[i]) (by omega) (by omega) (by simp; omega) (by omega)
    simp only [spec_PathClean.l1]
    rw [if_pos (by omega), if_pos (by omega), if_pos (by simp; omega), rd_B es i hi', if_pos (by omega), h1, if_pos (by omega), if_pos (by omega), B_app, hw, ih]
    have hcat : cat (es.drop i) = 47 :: (es[i] ++ cat (es.drop (i + 1))) := by rw [List.drop_eq_getElem_cons hi']; rfl
    rw [hcat]
    congr 2
    simp
theorem join_all (ro : Bool) (es : List (List UInt8)) (hl : es.length ≤ 100001) (he : ∀ e ∈ es, e.length ≤ 100000) (K : Nat) (hK : es.length + 1 ≤ K) :
    spec_PathClean.l1 K ro ⟨#[]⟩ (es.map B) (es.map B).length 0 = some (fin ro (([47] : List UInt8).intercalate es)) := by
  obtain ⟨K, rfl⟩ : ∃ q, K = q + 1 := ⟨K - 1, by omega⟩
  rw [List.length_map]
  cases es with
  | nil =>
    simp only [spec_PathClean.l1]
    rw [if_neg (by simp)]
    cases ro with
    | true => rfl
    | false =>
      rw [if_neg (by decide), if_pos (by rw [tl_data])]
      rfl
  | cons a l =>
    have h2 := he a (by simp)
    have h3 := B_size a
    have hr : rdOf ByteArray.empty ((a :: l).map B) 0 = B a := rfl
    have hw : wrap64 ((0 : Int) + 1) = ((1 : Nat) : Int) := by rw [wrap64_id (by omega) (by omega)]; omega
    have ih := join_is ro (a :: l) hl he l.length 1 K a (by simp; omega) (by simpa using hK) (by omega) (by omega)
    have e0 : (⟨#[]⟩ : ByteArray) ++ B a = B a := B_app [] a
    have ez : ((⟨#[]⟩ : ByteArray)).size = 0 := rfl
    simp only [spec_PathClean.l1]
    rw [if_pos (by simp), if_pos (by omega), if_pos (by simp), if_neg (by omega), hr, if_pos (by omega), e0, hw, ih, inter_cat]
    rfl
/-! the cleaned path -/
theorem last_B (x : List UInt8) (r : List (List UInt8)) : rdOf ByteArray.empty ((x :: r).reverse.map B) ((r.length : Nat) : Int) = B x := by
  rw [rd_B _ _ (by simp)]
  simp
theorem take_B (x : List UInt8) (r : List (List UInt8)) : ((x :: r).reverse.map B).take r.length = r.reverse.map B := by
  rw [List.reverse_cons, List.map_append, List.take_left']
  simp
theorem snoc_B (e : List UInt8) (st : List (List UInt8)) : st.reverse.map B ++ [B e] = (e :: st).reverse.map B := by simp
theorem len_B (st : List (List UInt8)) : (st.reverse.map B).length = st.length := by simp

theorem loop_is (ro : Bool) (ps : List (List UInt8)) (hp : ps.length ≤ 100001) (hpe : ∀ e ∈ ps, e.length ≤ 100000 ∧ 47 ∉ e) : ∀ (m i K : Nat) (st : List (List UInt8)), i + m = ps.length → 3 * m + 100010 ≤ K → (∀ x ∈ st, GoodE ro 100000 x) → st.length ≤ i →
    spec_PathClean.l0 K ro (st.reverse.map B) (ps.map B) ps.length i = some (fin ro (([47] : List UInt8).intercalate ((ps.drop i).foldl (Pa.cleanStep ro) st).reverse))
  | 0, i, K, st, h, hK, hg, hst => by
    obtain ⟨K, rfl⟩ : ∃ q, K = q + 1 := ⟨K - 1, by omega⟩
    have hd : ps.drop i = [] := List.drop_eq_nil_of_le (by omega)
    simp only [spec_PathClean.l0]
    rw [if_neg (by omega), hd]
    exact join_all ro st.reverse (by simp; omega) (fun e he => (hg e (List.mem_reverse.1 he)).1) K (by simp; omega)
  | m + 1, i, K, st, h, hK, hg, hst => by
    obtain ⟨K, rfl⟩ : ∃ q, K = q + 3 := ⟨K - 3, by omega⟩
    have hi : i < ps.length := by omega
    have hw : wrap64 ((i : Int) + 1) = ((i + 1 : Nat) : Int) := by rw [wrap64_id (by omega) (by omega)]; omega
    have hm := hpe _ (List.getElem_mem hi)
    have hgs := step_good ro 100000 st ps[i] hg hm
    have ih := loop_is ro ps hp hpe m (i + 1)
    rw [List.drop_eq_getElem_cons hi, List.foldl_cons]
    obtain ⟨e, he⟩ : ∃ e, ps[i] = e := ⟨_, rfl⟩
    have hr := rd_B ps i hi
    rw [he] at hr hm hgs ⊢
    have hll := len_B st
    by_cases h0 : e = [] ∨ e = [46]
    · have hs : Pa.cleanStep ro st e = st := by unfold Pa.cleanStep; rw [if_pos h0]
      rw [hs]
      simp only [spec_PathClean.l0, spec_PathClean.j2]
      rw [if_pos (by omega), if_pos (by omega), if_pos (by simp; omega), hr, B_tl]
      by_cases h1 : e = []
      · rw [if_pos h1, if_pos trivial, hw]
        exact ih (K + 1) st (by omega) (by omega) hg (by omega)
      · rw [if_neg h1, if_pos (beq_iff_eq.2 (h0.resolve_left h1)), hw]
        exact ih (K + 1) st (by omega) (by omega) hg (by omega)
    · rw [not_or] at h0
      have hl3 : (B e :: []).length = 1 := rfl
      have push : ∀ (L : List ByteArray), L = st.reverse.map B → (e = [46, 46] → ro = false) → Pa.cleanStep ro st e = e :: st → spec_PathClean.j3 (K + 1) ro L (B e) (ps.map B) ps.length i false = some (fin ro (([47] : List UInt8).intercalate ((ps.drop (i + 1)).foldl (Pa.cleanStep ro) (Pa.cleanStep ro st e)).reverse)) := by
        rintro L rfl h1 h2
        have hx := ih K (e :: st) (by omega) (by omega) (by rw [← h2]; exact hgs.1) (by simp; omega)
        rw [h2]
        simp only [spec_PathClean.j3]
        rw [if_neg (by decide), B_tl, snoc_B, hw, hx, hll]
        by_cases h3 : e = [46, 46]
        · rw [if_pos h3, if_neg (by rw [h1 h3]; decide), if_pos (by omega)]
        · rw [if_neg h3, if_pos (by omega)]
      simp only [spec_PathClean.l0]
      rw [if_pos (by omega), if_pos (by omega), if_pos (by simp; omega), hr, B_tl, if_neg h0.1, beq_eq_false_iff_ne.2 h0.2]
      have hns : ¬ (e = [] ∨ e = [46]) := by rw [not_or]; exact h0
      by_cases h1 : e = [46, 46]
      · cases st with
        | nil =>
          simp only [spec_PathClean.j2]
          rw [if_neg (by decide), B_tl, if_pos h1, if_neg (by simp)]
          cases ro with
          | false => exact push _ rfl (fun _ => rfl) (by unfold Pa.cleanStep; rw [if_neg hns, if_pos h1]; rfl)
          | true =>
            have h2 : Pa.cleanStep true [] e = [] := by unfold Pa.cleanStep; rw [if_neg hns, if_pos h1]; rfl
            rw [h2]
            simp only [spec_PathClean.j3]
            rw [if_neg (by decide), B_tl, if_pos h1, if_pos trivial, hw]
            exact ih K [] (by omega) (by omega) (by simp) (by simp)
        | cons x r =>
          have hw2 : wrap64 ((((x :: r).reverse.map B).length : Int) - 1) = ((r.length : Nat) : Int) := by
            rw [len_B, List.length_cons]
            simp only [List.length_cons] at hst
            rw [wrap64_id (by omega) (by omega)]; omega
          have hlb := len_B (x :: r)
          rw [List.length_cons] at hlb
          simp only [spec_PathClean.j2]
          rw [if_neg (by decide), B_tl, if_pos h1, if_pos (by omega), hw2, if_pos (by omega), if_pos (by omega), last_B, B_tl]
          by_cases h2 : x = [46, 46]
          · have h3 : Pa.cleanStep ro (x :: r) e = e :: x :: r := by unfold Pa.cleanStep; rw [if_neg hns, if_pos h1]; simp [h2]
            have h4 : (x != [46, 46]) = false := by simp [h2]
            rw [h4]
            have hro : ro = false := by
              cases ro with
              | false => rfl
              | true => exact absurd h2 ((hg x (by simp)).2.2.2.2 rfl)
            exact push _ rfl (fun _ => hro) h3
          · have h3 : Pa.cleanStep ro (x :: r) e = r := by unfold Pa.cleanStep; rw [if_neg hns, if_pos h1]; simp [h2]
            have h4 : (x != [46, 46]) = true := by simp [h2]
            rw [h4, h3]
            simp only [spec_PathClean.j3]
            rw [if_pos trivial, hw2, if_pos (by omega), if_pos (by omega), hw, Int.toNat_natCast, take_B]
            exact ih K r (by omega) (by omega) (fun y hy => hg y (by simp [hy])) (by simp only [List.length_cons] at hst; omega)
      · simp only [spec_PathClean.j2]
        rw [if_neg (by decide), B_tl, if_neg h1]
        exact push _ rfl (fun h => absurd h h1) (by unfold Pa.cleanStep; rw [if_neg hns, if_neg h1])

theorem clean_is (s : ByteArray) (hs : s.size ≤ 100000) (K : Nat) (hK : 500000 ≤ K) : spec_PathClean.f K s = some (cleanB s) := by
  obtain ⟨K, rfl⟩ : ∃ q, K = q + 1 := ⟨K - 1, by omega⟩
  have hz : s.data.toList.length = s.size := by simp
  have hp := pieces_is s hs s.size 0 0 K [] (by omega) (Nat.le_refl _) (by omega) (by simp)
  simp only [List.take_zero, List.drop_zero, els_hd, List.nil_append] at hp
  have hel := els_len s.data.toList
  have all : ∀ ro, spec_PathClean.j0 (K + 1) s ro = some (fin ro (([47] : List UInt8).intercalate ((Pa.els s.data.toList).foldl (Pa.cleanStep ro) []).reverse)) := by
    intro ro
    have h := loop_is ro (Pa.els s.data.toList) (by omega) (fun e he => ⟨by have := (hel.2 e he).1; omega, (hel.2 e he).2⟩) (Pa.els s.data.toList).length 0 K [] (by omega) (by omega) (by simp) (by simp)
    simp only [spec_PathClean.j0]
    unfold spec_slashPieces.f
    rw [show ((0 : Nat) : Int) = 0 from rfl] at hp
    rw [hp, Option.bind_some, List.length_map]
    exact h
  unfold spec_PathClean.f
  have hcl : cleanB s = B (Pa.cleanEls s.data.toList) := rfl
  rw [hcl]
  by_cases h0 : s.data.toList = []
  · have h0' : s.toList = ([] : List UInt8) := by rw [tl_data]; exact h0
    rw [if_pos h0', all false, h0]
    rfl
  · have h0' : ¬ s.toList = ([] : List UInt8) := by rw [tl_data]; exact h0
    have hpos : 0 < s.data.toList.length := List.length_pos_iff.2 h0
    rw [if_neg h0', if_pos (by omega), all]
    have hb := bt_data s 0 (by omega) hpos 47
    have hh : s.data.toList.head? = some s.data.toList[0] := by rw [List.head?_eq_getElem?, List.getElem?_eq_getElem hpos]
    have hro : ((bt s 0 : Int) == 47) = (s.data.toList.head? == some 47) := by
      rw [hh]
      by_cases e : s.data.toList[0] = 47
      · have e1 := hb.2 e
        rw [e, show (bt s 0 : Int) = 47 from e1]
        rfl
      · have e1 : ¬ (bt s 0 : Int) = 47 := fun h => e (hb.1 h)
        rw [beq_eq_false_iff_ne.2 e1, beq_eq_false_iff_ne.2 (by simpa using e)]
    rw [hro]
    congr 1
    cases hr : (s.data.toList.head? == some 47) with
    | true => rw [Pa.cleanEls_abs _ h0 hr]; rfl
    | false => rw [Pa.cleanEls_rel _ h0 hr]; unfold fin; rw [if_neg (by decide)]; split <;> rfl
end Go.Proofs.Ytkdmdoflfaldiaa.PurePs
