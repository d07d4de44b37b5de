/- 9 texts of this claim, one behind the other. -/
import Derived.Test.YtonmnpmklkbioaaDoorGe
import Derived.Lib.MapLaws
/- What Encode writes for one character of ASCII: by which bits. -/
namespace Go.Proofs.YtonmnpmklkbioaaDoor.Sy
open Go.RowKit Go.Proofs.YtonmnpmklkbioaaDoorW.PrintWords
set_option linter.unusedVariables false
set_option linter.unusedSimpArgs false
/-- The comparisons of one rune. -/
def knR (r : Int) : Ab → Option Bool
  | .cmp o c => some (o.on r c)
  | _ => none
theorem knR_ok (m r : Int) : ∀ t v, knR r t = some v → Bmr m r t = v := by
  intro t v h
  cases t <;> simp [knR] at h
  subst h
  rfl
theorem runS_cons {A F : Type} (B : A → Bool) (d d2 : DS A F) (l : List (DS A F)) {es : List (Option (E A))} {tr : List F} (h : d.run B = ⟨.normal, es, tr⟩) : (runS B (d :: d2 :: l)).tr = tr ++ (runS B (d2 :: l)).tr := by
  simp only [runS, h]
end Go.Proofs.YtonmnpmklkbioaaDoor.Sy
/- A character of ASCII between two letters: what Encode gives. -/
namespace Go.Proofs.YtonmnpmklkbioaaDoor.Sy
open Go.RowKit Go.Proofs.YtonmnpmklkbioaaDoorW.PrintWords
set_option linter.unusedVariables false
set_option linter.unusedSimpArgs false
end Go.Proofs.YtonmnpmklkbioaaDoor.Sy
/- The closure of Encode at one character of ASCII: the same bits. -/
namespace Go.Proofs.YtonmnpmklkbioaaDoor.Sy
open Go.RowKit Go.Proofs.YtonmnpmklkbioaaDoorW.PrintWords
set_option linter.unusedVariables false
set_option linter.unusedSimpArgs false
def isRet {A F : Type} : Lf A F → Bool
  | ⟨.ret, _, _⟩ => true
  | _ => false
theorem isT_ret {A F : Type} (B : A → Bool) (d : DS A F) (h : okHit d = true) : d.isT B = isRet (d.run B) := by
  rw [okHit_run B d h]
  cases d.isT B <;> rfl
def knA (r : Int) : At → Option Bool
  | .cmp o c => some (o.on r c)
  | _ => none
end Go.Proofs.YtonmnpmklkbioaaDoor.Sy
/- Texts as lists of characters and of bytes that are none: plain facts, without the program. -/
namespace Go.Proofs.YtonmnpmklkbioaaDoor.Pt
open Go.Lib
set_option linter.unusedVariables false
set_option linter.unusedSimpArgs false
/-- A character, or a byte that is part of none. -/
inductive Ch where
  | g (r : Nat)
  | b (x : UInt8)
  deriving DecidableEq
def Ch.by : Ch → List UInt8
  | .g r => encodeRune (r : Int)
  | .b x => [x]
/-- The rune that is decoded. -/
def Ch.rn : Ch → Nat
  | .g r => r
  | .b _ => 65533
def flat (L : List Ch) : List UInt8 := L.flatMap Ch.by
theorem flat_cons (c : Ch) (L : List Ch) : flat (c :: L) = c.by ++ flat L := rfl
theorem flat_append (L M : List Ch) : flat (L ++ M) = flat L ++ flat M := by unfold flat; rw [List.flatMap_append]
theorem flat_nil : flat [] = [] := rfl
/-- A rune that UTF-8 knows. -/
def Good (r : Nat) : Prop := r < 55296 ∨ (57344 ≤ r ∧ r ≤ 1114111)
def isBad (l : List UInt8) : Prop := (decodeL l).1 = 65533 ∧ (decodeL l).2 = 1
instance (l : List UInt8) : Decidable (isBad l) := by unfold isBad; infer_instance
def hd (l : List UInt8) : Ch := if isBad l then .b (l.getD 0 0) else .g (decodeL l).1
def chs : Nat → List UInt8 → List Ch
  | 0, _ => []
  | f + 1, l => if l = [] then [] else hd l :: chs f (l.drop (decodeL l).2)
def chars (l : List UInt8) : List Ch := chs l.length l
theorem chs_fuel : ∀ (f h : Nat) (l : List UInt8), l.length ≤ f → l.length ≤ h → chs f l = chs h l
  | 0, h, l, h1, h2 => by
    have : l = [] := List.length_eq_zero_iff.1 (by omega)
    subst this
    cases h <;> rfl
  | f + 1, 0, l, h1, h2 => by
    have : l = [] := List.length_eq_zero_iff.1 (by omega)
    subst this
    rfl
  | f + 1, h + 1, l, h1, h2 => by
    by_cases hl : l = []
    · simp [chs, hl]
    · have hp : 0 < l.length := List.length_pos_iff.2 hl
      have hw := decodeL_width l
      simp only [chs, if_neg hl]
      rw [chs_fuel f h _ (by rw [List.length_drop]; omega) (by rw [List.length_drop]; omega)]
theorem chars_cons {l : List UInt8} (h : l ≠ []) : chars l = hd l :: chars (l.drop (decodeL l).2) := by
  have hp : 0 < l.length := List.length_pos_iff.2 h
  have hw := decodeL_width l
  unfold chars
  obtain ⟨n, hn⟩ : ∃ n, l.length = n + 1 := ⟨l.length - 1, by omega⟩
  rw [hn]
  simp only [chs, if_neg h]
  rw [chs_fuel n _ _ (by rw [List.length_drop]; omega) (Nat.le_refl _)]
theorem hd_by {l : List UInt8} (h : l ≠ []) : (hd l).by = l.take (decodeL l).2 := by
  unfold hd
  by_cases hb : isBad l
  · rw [if_pos hb]
    rw [hb.2]
    cases l with
    | nil => exact absurd rfl h
    | cons x t => rfl
  · rw [if_neg hb]
    exact encode_decode l h hb
theorem flat_chars : ∀ (n : Nat) (l : List UInt8), l.length ≤ n → flat (chars l) = l
  | 0, l, h => by
    have : l = [] := List.length_eq_zero_iff.1 (by omega)
    subst this
    rfl
  | n + 1, l, h => by
    by_cases hl : l = []
    · subst hl; rfl
    · have hp : 0 < l.length := List.length_pos_iff.2 hl
      have hw := decodeL_width l
      rw [chars_cons hl, flat_cons, hd_by hl, flat_chars n _ (by rw [List.length_drop]; omega), List.take_append_drop]
theorem flat_chars' (l : List UInt8) : flat (chars l) = l := flat_chars _ l (Nat.le_refl _)
theorem hd_good {l : List UInt8} {r : Nat} (h : hd l = .g r) : Good r := by
  unfold hd at h
  split at h
  · cases h
  · rename_i hb
    cases h
    unfold isBad at hb
    rw [decodeL_N] at hb ⊢
    have k0 := (l.getD 0 0).toNat_lt
    rcases decodeN_shape l.length (l.getD 0 0).toNat (l.getD 1 0).toNat (l.getD 2 0).toNat (l.getD 3 0).toNat with ⟨c, e⟩ | ⟨c1, c2, c3, cv, e⟩ | ⟨c1, c2, c3, c4, cv, cs, e⟩ | ⟨c1, c2, c3, c4, c5, cv, cw, e⟩ | e
    · rw [e]; left; show (l.getD 0 0).toNat < 55296; omega
    · rw [e]; left; dsimp only; omega
    · rw [e]; dsimp only; unfold Good; omega
    · rw [e]; dsimp only; unfold Good; omega
    · rw [e] at hb; exact absurd ⟨rfl, rfl⟩ hb
/-! what comes behind -/
/-- Decoding a character does not depend on what comes behind. -/
theorem decode_append {l : List UInt8} (hl : l ≠ []) (hb : ¬ isBad l) (s : List UInt8) : decodeL (l ++ s) = decodeL l := by
  unfold isBad at hb
  rw [decodeL_N] at hb
  rw [decodeL_N, decodeL_N]
  have hp : 0 < l.length := List.length_pos_iff.2 hl
  have e : ∀ k, k < l.length → (l ++ s).getD k 0 = l.getD k 0 := by
    intro k hk
    simp [List.getD, List.getElem?_append_left hk]
  have hlen : (l ++ s).length = l.length + s.length := List.length_append
  rw [hlen, e 0 hp]
  have k0 := (l.getD 0 0).toNat_lt
  rcases decodeN_shape l.length (l.getD 0 0).toNat (l.getD 1 0).toNat (l.getD 2 0).toNat (l.getD 3 0).toNat with ⟨c, h⟩ | ⟨c1, c2, c3, cv, h⟩ | ⟨c1, c2, c3, c4, cv, cs, h⟩ | ⟨c1, c2, c3, c4, c5, cv, cw, h⟩ | h
  · rw [h]; unfold decodeN; rw [if_pos c]
  · rw [e 1 c2, h]
    unfold decodeN
    rw [if_neg (by omega), if_pos ⟨c1, by omega, c3⟩, if_pos cv]
  · rw [e 1 (by omega), e 2 c2, h]
    unfold decodeN
    rw [if_neg (by omega), if_neg (by omega), if_pos ⟨c1, ⟨by omega, c3⟩, by omega, c4⟩, if_pos ⟨cv, by omega⟩]
  · rw [e 1 (by omega), e 2 (by omega), e 3 c2, h]
    unfold decodeN
    rw [if_neg (by omega), if_neg (by omega), if_neg (by omega), if_pos ⟨c1, ⟨by omega, c3⟩, ⟨by omega, c4⟩, by omega, c5⟩, if_pos ⟨cv, by omega⟩]
  · rw [h] at hb; exact absurd ⟨rfl, rfl⟩ hb
theorem bad_left {l s : List UInt8} (hl : l ≠ []) (hb : isBad (l ++ s)) : isBad l := by
  by_cases h : isBad l
  · exact h
  · unfold isBad at hb
    rw [decode_append hl h s] at hb
    exact absurd hb h
/-- A byte that goes on a character. -/
def isC (x : UInt8) : Bool := x.toNat / 64 == 2
/-- The bytes ahead that go on a character. -/
def run (l : List UInt8) : List UInt8 := l.takeWhile isC
theorem run_append_stop {a b : List UInt8} (h : run b = []) : run (a ++ b) = run a := by
  unfold run at *
  induction a with
  | nil => simpa using h
  | cons x t ih =>
    rw [List.cons_append, List.takeWhile_cons, List.takeWhile_cons, ih]
theorem run_mono {a b : List UInt8} (h : a <+: b) : run a <+: run b := by
  obtain ⟨s, rfl⟩ := h
  induction a with
  | nil => exact List.nil_prefix
  | cons x t ih =>
    unfold run at *
    rw [List.cons_append, List.takeWhile_cons, List.takeWhile_cons]
    cases isC x with
    | true => exact (List.prefix_cons_inj x).2 ih
    | false => exact List.nil_prefix
/-- A character is decoded of its first byte and those behind it that go on. -/
theorem decode_run (x : UInt8) (t : List UInt8) : decodeL (x :: t) = decodeL (x :: run t) := by
  rw [decodeL_N, decodeL_N]
  unfold decodeN
  have c0 : ∀ y : UInt8, isC y = true → y.toNat / 64 = 2 := fun y h => by simpa [isC] using h
  have c1 : ∀ y : UInt8, isC y = false → y.toNat / 64 ≠ 2 := fun y h => by simpa [isC] using h
  match t with
  | [] => rfl
  | [y] =>
    unfold run
    cases hy : isC y with
    | true => simp [hy]
    | false => have := c1 y hy; simp [hy, this]
  | [y, z] =>
    unfold run
    cases hy : isC y with
    | true =>
      cases hz : isC z with
      | true => simp [hy, hz]
      | false => have := c1 z hz; simp [hy, hz, this]
    | false => have := c1 y hy; simp [hy, this]
  | y :: z :: u :: s =>
    unfold run
    cases hy : isC y with
    | true =>
      cases hz : isC z with
      | true =>
        cases hu : isC u with
        | true => simp [hy, hz, hu]
        | false => have := c1 u hu; simp [hy, hz, hu, this]
      | false => have := c1 z hz; simp [hy, hz, this]
    | false => have := c1 y hy; simp [hy, this]
theorem bad_run {x : UInt8} {t : List UInt8} : isBad (x :: t) ↔ isBad (x :: run t) := by unfold isBad; rw [decode_run]
/-! characters' bytes -/
theorem good_ne (r : Nat) : encodeRune (r : Int) ≠ [] := by
  intro h
  have h1 : (encodeRune (r : Int)).length = 0 := by rw [h]; rfl
  unfold encodeRune at h1
  rw [List.length_map] at h1
  have h2 := (encodeRuneZ_length (r : Int)).1
  omega
theorem tb (z : Int) (h : 0 ≤ z) (h2 : z < 256) : (z.toNat.toUInt8.toNat : Int) = z := by
  have : z.toNat.toUInt8.toNat = z.toNat := by
    simp
    omega
  omega
theorem run_good {r : Nat} (hr : Good r) (t : List UInt8) : run (encodeRune (r : Int) ++ t) = [] := by
  have key : ∀ (z : Int) (l : List UInt8), 0 ≤ z → z < 256 → z / 64 ≠ 2 → run (z.toNat.toUInt8 :: l) = [] := by
    intro z l h1 h2 h3
    unfold run
    rw [List.takeWhile_cons, if_neg]
    have := tb z h1 h2
    simp only [isC, beq_iff_eq]
    omega
  unfold Good at hr
  unfold encodeRune
  rcases (show r ≤ 127 ∨ (128 ≤ r ∧ r ≤ 2047) ∨ (2048 ≤ r ∧ r < 65536) ∨ (65536 ≤ r ∧ r ≤ 1114111) by omega) with h | h | h | h
  · rw [encodeRuneZ_one (by omega) (by omega)]; exact key _ _ (by omega) (by omega) (by omega)
  · rw [encodeRuneZ_two (by omega) (by omega)]; exact key _ _ (by omega) (by omega) (by omega)
  · rw [encodeRuneZ_three (by omega)]; exact key _ _ (by omega) (by omega) (by omega)
  · rw [encodeRuneZ_four (by omega) (by omega)]; exact key _ _ (by omega) (by omega) (by omega)
theorem decode_good {r : Nat} (hr : Good r) (t : List UInt8) : decodeL (encodeRune (r : Int) ++ t) = (r, (encodeRune (r : Int)).length) := by
  unfold Good at hr
  rw [decodeL_N]
  unfold encodeRune
  rcases (show r ≤ 127 ∨ (128 ≤ r ∧ r ≤ 2047) ∨ (2048 ≤ r ∧ r < 65536) ∨ (65536 ≤ r ∧ r ≤ 1114111) by omega) with h | h | h | h
  · rw [encodeRuneZ_one (by omega) (by omega)]
    have e0 := tb (r : Int) (by omega) (by omega)
    simp only [List.map_cons, List.map_nil, List.cons_append, List.nil_append, List.getD_cons_zero, List.length_cons, List.length_nil]
    unfold decodeN
    rw [if_pos (by omega)]
    congr 1
    omega
  · rw [encodeRuneZ_two (by omega) (by omega)]
    have e0 := tb (192 + (r : Int) / 64) (by omega) (by omega)
    have e1 := tb (128 + (r : Int) % 64) (by omega) (by omega)
    simp only [List.map_cons, List.map_nil, List.cons_append, List.nil_append, List.getD_cons_zero, List.getD_cons_succ, List.length_cons, List.length_nil]
    unfold decodeN
    rw [if_neg (by omega), if_pos (by refine ⟨by omega, by omega, by omega⟩), if_pos (by omega)]
    congr 1
    omega
  · rw [encodeRuneZ_three (by omega)]
    have e0 := tb (224 + (r : Int) / 4096) (by omega) (by omega)
    have e1 := tb (128 + (r : Int) / 64 % 64) (by omega) (by omega)
    have e2 := tb (128 + (r : Int) % 64) (by omega) (by omega)
    simp only [List.map_cons, List.map_nil, List.cons_append, List.nil_append, List.getD_cons_zero, List.getD_cons_succ, List.length_cons, List.length_nil]
    unfold decodeN
    rw [if_neg (by omega), if_neg (by omega), if_pos (by refine ⟨by omega, ⟨by omega, by omega⟩, by omega, by omega⟩), if_pos (by omega)]
    congr 1
    omega
  · rw [encodeRuneZ_four (by omega) (by omega)]
    have e0 := tb (240 + (r : Int) / 262144) (by omega) (by omega)
    have e1 := tb (128 + (r : Int) / 4096 % 64) (by omega) (by omega)
    have e2 := tb (128 + (r : Int) / 64 % 64) (by omega) (by omega)
    have e3 := tb (128 + (r : Int) % 64) (by omega) (by omega)
    simp only [List.map_cons, List.map_nil, List.cons_append, List.nil_append, List.getD_cons_zero, List.getD_cons_succ, List.length_cons, List.length_nil]
    unfold decodeN
    rw [if_neg (by omega), if_neg (by omega), if_neg (by omega), if_pos (by refine ⟨by omega, ⟨by omega, by omega⟩, ⟨by omega, by omega⟩, by omega, by omega⟩), if_pos (by omega)]
    congr 1
    omega
theorem good_len {r : Nat} (hr : Good r) : ¬ (r = 65533 ∧ (encodeRune (r : Int)).length = 1) := by
  rintro ⟨rfl, h⟩
  exact absurd h (by decide)
theorem hd_of_good {r : Nat} (hr : Good r) (t : List UInt8) : hd (encodeRune (r : Int) ++ t) = .g r := by
  unfold hd
  have : ¬ isBad (encodeRune (r : Int) ++ t) := by
    unfold isBad
    rw [decode_good hr]
    exact good_len hr
  rw [if_neg this, decode_good hr]
/-! which lists are a text's characters -/
def Pr : List Ch → Prop
  | [] => True
  | .g r :: L => Good r ∧ Pr L
  | .b x :: L => isBad (x :: run (flat L)) ∧ Pr L
theorem chars_flat : ∀ (L : List Ch), Pr L → chars (flat L) = L
  | [], _ => rfl
  | .g r :: L, h => by
    have hne : flat (.g r :: L) ≠ [] := by
      rw [flat_cons]
      intro e
      exact good_ne r (List.append_eq_nil_iff.1 e).1
    rw [chars_cons hne, flat_cons]
    show hd (encodeRune (r : Int) ++ flat L) :: chars ((encodeRune (r : Int) ++ flat L).drop (decodeL (encodeRune (r : Int) ++ flat L)).2) = _
    rw [hd_of_good h.1, decode_good h.1]
    simp only [List.drop_left]
    rw [chars_flat L h.2]
  | .b x :: L, h => by
    have hb : isBad (x :: flat L) := bad_run.2 h.1
    have hne : flat (.b x :: L) ≠ [] := by intro e; cases e
    rw [chars_cons hne]
    show hd (x :: flat L) :: chars ((x :: flat L).drop (decodeL (x :: flat L)).2) = _
    unfold hd
    rw [if_pos hb, hb.2]
    show Ch.b x :: chars (flat L) = _
    rw [chars_flat L h.2]
theorem pr_chs : ∀ (n : Nat) (l : List UInt8), l.length ≤ n → Pr (chars l)
  | 0, l, h => by
    have : l = [] := List.length_eq_zero_iff.1 (by omega)
    subst this
    trivial
  | n + 1, l, h => by
    by_cases hl : l = []
    · subst hl; trivial
    · have hp : 0 < l.length := List.length_pos_iff.2 hl
      have hw := decodeL_width l
      have ih := pr_chs n (l.drop (decodeL l).2) (by rw [List.length_drop]; omega)
      rw [chars_cons hl]
      by_cases hb : isBad l
      · have e : hd l = .b (l.getD 0 0) := by unfold hd; rw [if_pos hb]
        rw [e]
        refine ⟨?_, ih⟩
        rw [flat_chars']
        cases l with
        | nil => exact absurd rfl hl
        | cons x t =>
          rw [hb.2]
          exact bad_run.1 hb
      · have e : hd l = .g (decodeL l).1 := by unfold hd; rw [if_neg hb]
        rw [e]
        exact ⟨hd_good e, ih⟩
theorem pr_chars (l : List UInt8) : Pr (chars l) := pr_chs _ l (Nat.le_refl _)
theorem pr_right : ∀ {L M : List Ch}, Pr (L ++ M) → Pr M
  | [], _, h => h
  | .g r :: L, _, h => pr_right (L := L) h.2
  | .b x :: L, _, h => pr_right (L := L) h.2
theorem bad_pre {x : UInt8} {a b : List UInt8} (h : a <+: b) (hb : isBad (x :: b)) : isBad (x :: a) := by
  obtain ⟨s, rfl⟩ := h
  exact bad_left (l := x :: a) (by intro e; cases e) hb
theorem pr_left : ∀ {L M : List Ch}, Pr (L ++ M) → Pr L
  | [], _, _ => trivial
  | .g r :: L, _, h => ⟨h.1, pr_left h.2⟩
  | .b x :: L, M, h => ⟨bad_pre (run_mono (by show flat L <+: flat (L ++ M); rw [flat_append]; exact List.prefix_append _ _)) h.1, pr_left h.2⟩
theorem pr_append : ∀ {L M : List Ch}, Pr L → Pr M → run (flat M) = [] → Pr (L ++ M)
  | [], _, _, h, _ => h
  | .g r :: L, _, h, h2, h3 => ⟨h.1, pr_append h.2 h2 h3⟩
  | .b x :: L, M, h, h2, h3 => ⟨by show isBad (x :: run (flat (L ++ M))); rw [flat_append, run_append_stop h3]; exact h.1, pr_append h.2 h2 h3⟩
/-- Characters one by one made to others: a byte that is none stays, or becomes characters. -/
def Ok (f : Ch → List Ch) : Prop := (∀ r, Good r → f (.g r) ≠ [] ∧ ∀ c ∈ f (.g r), ∃ q, c = .g q ∧ Good q) ∧ ∀ x, f (.b x) = [.b x] ∨ (f (.b x) ≠ [] ∧ ∀ c ∈ f (.b x), ∃ q, c = .g q ∧ Good q)
theorem pr_goods : ∀ {L M : List Ch}, (∀ c ∈ L, ∃ q, c = .g q ∧ Good q) → Pr M → Pr (L ++ M)
  | [], _, _, h => h
  | c :: L, _, h, h2 => by
    obtain ⟨q, rfl, hq⟩ := h c List.mem_cons_self
    exact ⟨hq, pr_goods (fun c hc => h c (List.mem_cons_of_mem _ hc)) h2⟩
theorem run_goods {L M : List Ch} (h1 : L ≠ []) (h : ∀ c ∈ L, ∃ q, c = .g q ∧ Good q) : run (flat (L ++ M)) = [] := by
  cases L with
  | nil => exact absurd rfl h1
  | cons c L =>
    obtain ⟨q, rfl, hq⟩ := h c List.mem_cons_self
    rw [List.cons_append, flat_cons]
    exact run_good hq _
theorem run_subst {f : Ch → List Ch} (hf : Ok f) : ∀ (L : List Ch), Pr L → run (flat (L.flatMap f)) <+: run (flat L)
  | [], _ => List.prefix_rfl
  | .g r :: L, h => by
    rw [List.flatMap_cons, run_goods (hf.1 r h.1).1 (hf.1 r h.1).2]
    exact List.nil_prefix
  | .b x :: L, h => by
    rw [List.flatMap_cons]
    rcases hf.2 x with e | ⟨e1, e2⟩
    · rw [e, List.cons_append, List.nil_append, flat_cons, flat_cons]
      show run (x :: flat (L.flatMap f)) <+: run (x :: flat L)
      have ih := run_subst hf L h.2
      unfold run at *
      rw [List.takeWhile_cons, List.takeWhile_cons]
      cases isC x with
      | true => exact (List.prefix_cons_inj x).2 ih
      | false => exact List.nil_prefix
    · rw [run_goods e1 e2]
      exact List.nil_prefix
theorem pr_subst {f : Ch → List Ch} (hf : Ok f) : ∀ (L : List Ch), Pr L → Pr (L.flatMap f)
  | [], _ => trivial
  | .g r :: L, h => by
    rw [List.flatMap_cons]
    exact pr_goods (hf.1 r h.1).2 (pr_subst hf L h.2)
  | .b x :: L, h => by
    rw [List.flatMap_cons]
    rcases hf.2 x with e | ⟨e1, e2⟩
    · rw [e]
      exact ⟨bad_pre (run_subst hf L h.2) h.1, pr_subst hf L h.2⟩
    · exact pr_goods e2 (pr_subst hf L h.2)
/-! two texts one behind the other; the last character -/
theorem chars_append {a b : List UInt8} (h : run b = []) : chars (a ++ b) = chars a ++ chars b := by
  have hp : Pr (chars a ++ chars b) := pr_append (pr_chars a) (pr_chars b) (by rw [flat_chars']; exact h)
  have := chars_flat _ hp
  rwa [flat_append, flat_chars', flat_chars'] at this
theorem bad_big {x : UInt8} {t : List UInt8} (h : isBad (x :: t)) : 128 ≤ x.toNat := by
  unfold isBad at h
  rw [decodeL_N] at h
  simp only [List.getD_cons_zero] at h
  unfold decodeN at h
  split at h
  · have := h.1; dsimp only at this; omega
  · omega
/-- Of a character's bytes all but the first go on. -/
theorem tail_conts {r : Nat} (hr : Good r) : ∀ x ∈ (encodeRune (r : Int)).drop 1, isC x = true := by
  have key : ∀ z : Int, 128 ≤ z → z < 192 → isC z.toNat.toUInt8 = true := by
    intro z h1 h2
    have := tb z (by omega) (by omega)
    simp only [isC, beq_iff_eq]
    omega
  unfold Good at hr
  unfold encodeRune
  rcases (show r ≤ 127 ∨ (128 ≤ r ∧ r ≤ 2047) ∨ (2048 ≤ r ∧ r < 65536) ∨ (65536 ≤ r ∧ r ≤ 1114111) by omega) with h | h | h | h
  · rw [encodeRuneZ_one (by omega) (by omega)]; simp
  · rw [encodeRuneZ_two (by omega) (by omega)]
    intro x hx
    simp only [List.map_cons, List.map_nil, List.drop_succ_cons, List.drop_zero, List.mem_cons, List.not_mem_nil, or_false] at hx
    subst hx
    exact key _ (by omega) (by omega)
  · rw [encodeRuneZ_three (by omega)]
    intro x hx
    simp only [List.map_cons, List.map_nil, List.drop_succ_cons, List.drop_zero, List.mem_cons, List.not_mem_nil, or_false] at hx
    rcases hx with rfl | rfl
    · exact key _ (by omega) (by omega)
    · exact key _ (by omega) (by omega)
  · rw [encodeRuneZ_four (by omega) (by omega)]
    intro x hx
    simp only [List.map_cons, List.map_nil, List.drop_succ_cons, List.drop_zero, List.mem_cons, List.not_mem_nil, or_false] at hx
    rcases hx with rfl | rfl | rfl
    · exact key _ (by omega) (by omega)
    · exact key _ (by omega) (by omega)
    · exact key _ (by omega) (by omega)
theorem good_small {r : Nat} (hr : Good r) : (encodeRune (r : Int)).length = 1 ∧ r < 128 ∧ encodeRune (r : Int) = [UInt8.ofNat r] ∨ (2 ≤ (encodeRune (r : Int)).length ∧ (encodeRune (r : Int)).length ≤ 4 ∧ 128 ≤ r ∧ 128 ≤ ((encodeRune (r : Int)).getD 0 0).toNat ∧ isC ((encodeRune (r : Int)).getD 0 0) = false) := by
  have key : ∀ z : Int, 192 ≤ z → z < 256 → 128 ≤ z.toNat.toUInt8.toNat ∧ isC z.toNat.toUInt8 = false := by
    intro z h1 h2
    have := tb z (by omega) (by omega)
    refine ⟨by omega, ?_⟩
    simp only [isC, beq_eq_false_iff_ne, ne_eq]
    omega
  unfold Good at hr
  unfold encodeRune
  rcases (show r ≤ 127 ∨ (128 ≤ r ∧ r ≤ 2047) ∨ (2048 ≤ r ∧ r < 65536) ∨ (65536 ≤ r ∧ r ≤ 1114111) by omega) with h | h | h | h
  · rw [encodeRuneZ_one (by omega) (by omega)]
    exact .inl ⟨rfl, by omega, rfl⟩
  · rw [encodeRuneZ_two (by omega) (by omega)]
    exact .inr ⟨by simp, by simp, by omega, key _ (by omega) (by omega)⟩
  · rw [encodeRuneZ_three (by omega)]
    exact .inr ⟨by simp, by simp, by omega, key _ (by omega) (by omega)⟩
  · rw [encodeRuneZ_four (by omega) (by omega)]
    exact .inr ⟨by simp, by simp, by omega, key _ (by omega) (by omega)⟩
theorem getD_end (t q : List UInt8) (k : Nat) (h1 : 1 ≤ k) (h2 : k ≤ q.length) : (t ++ q).getD ((t ++ q).length - k) 0 = q.getD (q.length - k) 0 := by
  rw [List.length_append]
  simp only [List.getD]
  rw [List.getElem?_append_right (by omega)]
  congr 2
  omega
theorem last_good {r : Nat} (hr : Good r) (t : List UInt8) : decodeLastL (t ++ encodeRune (r : Int)) = (r, (encodeRune (r : Int)).length) := by
  have hne : t ++ encodeRune (r : Int) ≠ [] := by intro e; exact good_ne r (List.append_eq_nil_iff.1 e).2
  have hdec : decodeL (encodeRune (r : Int)) = (r, (encodeRune (r : Int)).length) := by
    have := decode_good hr []
    rwa [List.append_nil] at this
  unfold decodeLastL
  rw [if_neg hne]
  rcases good_small hr with ⟨h1, h2, h3⟩ | ⟨h1, h2, h3, h4, h5⟩
  · rw [getD_end t _ 1 (Nat.le_refl _) (by omega), h1, h3]
    have : (UInt8.ofNat r).toNat = r := by simp; omega
    simp only [Nat.sub_self, List.getD_cons_zero]
    rw [if_pos (by omega), this]
  · have hc := tail_conts hr
    obtain ⟨q, hq⟩ : ∃ q, encodeRune (r : Int) = q := ⟨_, rfl⟩
    rw [hq] at hc h1 h2 h4 h5 hdec hne ⊢
    have hb : ∀ k, 1 ≤ k → k < q.length → isC (q.getD k 0) = true := by
      intro k hk1 hk2
      apply hc
      have : q.getD k 0 = q[k] := by simp [List.getD, hk2]
      rw [this]
      have h6 : (q.drop 1)[k - 1]? = some q[k] := by rw [List.getElem?_drop, show 1 + (k - 1) = k by omega]; exact List.getElem?_eq_getElem hk2
      exact List.mem_of_getElem? h6
    have rs : ∀ x, isC x = true → runeStartB x = false ∧ 128 ≤ x.toNat := by
      intro x hx
      simp only [isC, beq_iff_eq] at hx
      exact ⟨by simp [runeStartB, hx], by omega⟩
    have rs0 : runeStartB (q.getD 0 0) = true := by
      simp only [isC, beq_eq_false_iff_ne, ne_eq] at h5
      simp only [runeStartB, bne_iff_ne, ne_eq]; exact h5
    have hlast : 128 ≤ (q.getD (q.length - 1) 0).toNat := (rs _ (hb _ (by omega) (by omega))).2
    rw [getD_end t q 1 (Nat.le_refl _) (by omega), if_neg (by omega)]
    have hls : lastStart (t ++ q) = (t ++ q).length - q.length := by
      have hL : (t ++ q).length = t.length + q.length := List.length_append
      have n2 : ¬ (t ++ q).length < 2 := by omega
      rcases (show q.length = 2 ∨ q.length = 3 ∨ q.length = 4 by omega) with e | e | e
      · have g2 : runeStartB ((t ++ q).getD ((t ++ q).length - 2) 0) = true := by rw [getD_end t q 2 (by omega) (by omega), show q.length - 2 = 0 by omega]; exact rs0
        simp only [lastStart, if_neg n2, g2, if_true, e]
      · have g2 : runeStartB ((t ++ q).getD ((t ++ q).length - 2) 0) = false := by rw [getD_end t q 2 (by omega) (by omega)]; exact (rs _ (hb (q.length - 2) (by omega) (by omega))).1
        have g3 : runeStartB ((t ++ q).getD ((t ++ q).length - 3) 0) = true := by rw [getD_end t q 3 (by omega) (by omega), show q.length - 3 = 0 by omega]; exact rs0
        have n3 : ¬ (t ++ q).length < 3 := by omega
        simp only [lastStart, if_neg n2, g2, if_neg n3, g3, if_true, e, Bool.false_eq_true, if_false]
      · have g2 : runeStartB ((t ++ q).getD ((t ++ q).length - 2) 0) = false := by rw [getD_end t q 2 (by omega) (by omega)]; exact (rs _ (hb (q.length - 2) (by omega) (by omega))).1
        have g3 : runeStartB ((t ++ q).getD ((t ++ q).length - 3) 0) = false := by rw [getD_end t q 3 (by omega) (by omega)]; exact (rs _ (hb (q.length - 3) (by omega) (by omega))).1
        have g4 : runeStartB ((t ++ q).getD ((t ++ q).length - 4) 0) = true := by rw [getD_end t q 4 (by omega) (by omega), show q.length - 4 = 0 by omega]; exact rs0
        have n3 : ¬ (t ++ q).length < 3 := by omega
        have n4 : ¬ (t ++ q).length < 4 := by omega
        simp only [lastStart, if_neg n2, g2, if_neg n3, g3, if_neg n4, g4, if_true, e, Bool.false_eq_true, if_false]
    have hL : (t ++ q).length = t.length + q.length := List.length_append
    rw [hls, show (t ++ q).length - q.length = t.length by omega, List.drop_left, hdec]
    dsimp only
    rw [if_pos (by omega)]
theorem last_bad {L : List Ch} {x : UInt8} (h : Pr (L ++ [.b x])) : decodeLastL (flat L ++ [x]) = (65533, 1) := by
  have hx : 128 ≤ x.toNat := bad_big (pr_right h).1
  obtain ⟨l, hl⟩ : ∃ l, flat L ++ [x] = l := ⟨_, rfl⟩
  have hch : chars l = L ++ [.b x] := by
    rw [← hl, ← chars_flat _ h, flat_append]
    rfl
  have hne : l ≠ [] := by rw [← hl]; simp
  have hlast : l.getD (l.length - 1) 0 = x := by
    rw [← hl, getD_end (flat L) [x] 1 (Nat.le_refl _) (Nat.le_refl _)]
    rfl
  rw [hl]
  unfold decodeLastL
  rw [if_neg hne, hlast, if_neg (by omega)]
  dsimp only
  split
  · rename_i hd2
    obtain ⟨s, hs⟩ : ∃ s, lastStart l = s := ⟨_, rfl⟩
    rw [hs] at hd2 ⊢
    have hw := decodeL_width (l.drop s)
    by_cases hb : isBad (l.drop s)
    · exact Prod.ext hb.1 hb.2
    · exfalso
      have hdn : l.drop s ≠ [] := by
        intro e
        have := congrArg List.length e
        rw [List.length_drop] at this
        simp only [List.length_nil] at this
        omega
      have he := encode_decode (l.drop s) hdn hb
      have hg : Good (decodeL (l.drop s)).1 := hd_good (l := l.drop s) (by unfold hd; rw [if_neg hb])
      obtain ⟨r, hr⟩ : ∃ r, (decodeL (l.drop s)).1 = r := ⟨_, rfl⟩
      rw [hr] at he hg
      rw [List.take_of_length_le (by rw [List.length_drop]; omega)] at he
      have h2 : chars (l.take s ++ l.drop s) = chars (l.take s) ++ chars (l.drop s) := chars_append (by rw [← he]; have := run_good hg []; rwa [List.append_nil] at this)
      rw [List.take_append_drop] at h2
      have h3 : chars (l.drop s) = [.g r] := by
        have : Pr [.g r] := ⟨hg, trivial⟩
        have h4 := chars_flat _ this
        rw [flat_cons, flat_nil, List.append_nil] at h4
        rw [← he]
        exact h4
      rw [h3, hch] at h2
      have h5 := congrArg List.getLast? h2
      simp at h5
  · rfl
/-- The rune and the width of the last character. -/
theorem last_of {L : List Ch} {c : Ch} (h : Pr (L ++ [c])) : decodeLastL (flat (L ++ [c])) = (c.rn, c.by.length) := by
  rw [flat_append, flat_cons, flat_nil, List.append_nil]
  cases c with
  | g r => exact last_good (pr_right h).1 _
  | b x => exact last_bad h
/-- The rune and the width of the first. -/
theorem first_of {L : List Ch} {c : Ch} (h : Pr (c :: L)) : decodeL (flat (c :: L)) = (c.rn, c.by.length) := by
  rw [flat_cons]
  cases c with
  | g r => exact decode_good h.1 _
  | b x =>
    have hb : isBad (x :: flat L) := bad_run.2 h.1
    exact Prod.ext hb.1 hb.2
end Go.Proofs.YtonmnpmklkbioaaDoor.Pt
/- How names are written and read, character by character: plain; and that what is written is read back. -/
namespace Go.Proofs.YtonmnpmklkbioaaDoor.Pt
open Go.Lib
set_option linter.unusedVariables false
set_option linter.unusedSimpArgs false
/-- What a mask takes: wherever it stands, at the beginning, at the end; bytes that are no character; the names of points. -/
structure Tk where
  t : Nat → Bool
  l : Nat → Bool
  r : Nat → Bool
  inv : Bool
  dot : Bool
/-- The masks' bounds. -/
structure Tk.Ok (k : Tk) : Prop where
  t : ∀ c, k.t c = true → c < 128
  l : ∀ c, k.l c = true → c < 128
  r : ∀ c, k.r c = true → c < 128
def sgn (c : Nat) : Nat := if c ≤ 32 then 9216 + c else if c = 127 then 9249 else c + 65248
def sof (s : Nat) : Option Nat := if 9216 ≤ s ∧ s ≤ 9248 then some (s - 9216) else if s = 9249 then some 127 else if 65281 ≤ s ∧ s ≤ 65374 then some (s - 65248) else none
theorem sof_sgn {c : Nat} (h : c < 128) : sof (sgn c) = some c := by
  unfold sgn sof
  by_cases h1 : c ≤ 32
  · rw [if_pos h1, if_pos (by omega), Option.some.injEq]; omega
  · rw [if_neg h1]
    by_cases h2 : c = 127
    · rw [if_pos h2]; subst h2; rfl
    · rw [if_neg h2, if_neg (by omega), if_neg (by omega), if_pos (by omega), Option.some.injEq]; omega
theorem sof_some {s c : Nat} (h : sof s = some c) : sgn c = s ∧ c < 128 ∧ 9216 ≤ s ∧ s ≤ 65374 ∧ Good s := by
  unfold sof at h
  unfold Good
  split at h
  · have h := Option.some.inj h; subst h; unfold sgn; rw [if_pos (by omega)]; omega
  · split at h
    · rename_i e; have h := Option.some.inj h; subst h; subst e; exact ⟨rfl, by omega, by omega, by omega, by omega⟩
    · split at h
      · have h := Option.some.inj h; subst h; unfold sgn; rw [if_neg (by omega), if_neg (by omega)]; omega
      · cases h
theorem sof_none {s : Nat} (h : s < 9216) : sof s = none := by
  unfold sof
  rw [if_neg (by omega), if_neg (by omega), if_neg (by omega)]
theorem sgn_ge (c : Nat) : 9216 ≤ sgn c := by
  unfold sgn; split
  · omega
  · split <;> omega
theorem good_sgn {c : Nat} (h : c < 128) : Good (sgn c) := by
  unfold sgn Good; split
  · omega
  · split <;> omega
abbrev qt : Ch := .g 8219
theorem good_qt : Good 8219 := by unfold Good; omega
/-- A character as it is written by bits that take P: its sign; a sign of such a one behind a quote. -/
def signed (P : Nat → Bool) : Ch → Option (List Ch)
  | .b _ => none
  | .g r => if P r then some [.g (sgn r)] else match sof r with
    | some c => if P c then some [qt, .g r] else none
    | none => none
def hexc (n : Nat) : Nat := if n < 10 then 48 + n else 55 + n
/-- .. where the left and the right have nothing to do with it. -/
def betw (k : Tk) : Ch → List Ch
  | .b x => if k.inv then [qt, .g (hexc (x.toNat / 16)), .g (hexc (x.toNat % 16))] else [.b x]
  | .g r => if r = 8219 then [qt, qt] else (signed k.t (.g r)).getD [.g r]
def dotC (k : Tk) (L : List Ch) : Option (List Ch) :=
  if k.dot then
    if L = [.g 46] then some [.g 65294]
    else if L = [.g 46, .g 46] then some [.g 65294, .g 65294]
    else if L = [.g 65294] then some [qt, .g 65294]
    else if L = [.g 65294, .g 65294] then some [qt, .g 65294, qt, .g 65294]
    else none
  else none
def leftC (k : Tk) : List Ch → List Ch × List Ch
  | [] => ([], [])
  | c :: L => match signed k.l c with
    | some t => (t, L)
    | none => ([], c :: L)
def rightC (k : Tk) (L : List Ch) : List Ch × List Ch :=
  match L.getLast? with
  | none => (L, [])
  | some c => match signed k.r c with
    | some t => (L.dropLast, t)
    | none => (L, [])
/-- What is written. -/
def encC (k : Tk) (L : List Ch) : List Ch :=
  match dotC k L with
  | some t => t
  | none => (leftC k L).1 ++ (rightC k (leftC k L).2).1.flatMap (betw k) ++ (rightC k (leftC k L).2).2
/-! reading -/
/-- What a sign stands for, if P takes that. -/
def lsign (P : Nat → Bool) : Ch → Option Nat
  | .b _ => none
  | .g r => match sof r with
    | some c => if P c then some c else none
    | none => none
def hexv : Ch → Option Nat
  | .b _ => none
  | .g r => if 48 ≤ r ∧ r ≤ 57 then some (r - 48) else if 97 ≤ r ∧ r ≤ 102 then some (r - 87) else if 65 ≤ r ∧ r ≤ 70 then some (r - 55) else none
def undotC (k : Tk) (L : List Ch) : Option (List Ch) :=
  if k.dot then
    if L = [.g 65294] then some [.g 46]
    else if L = [.g 65294, .g 65294] then some [.g 46, .g 46]
    else if L = [qt, .g 65294] then some [.g 65294]
    else if L = [qt, .g 65294, qt, .g 65294] then some [.g 65294, .g 65294]
    else none
  else none
def dleft (k : Tk) : List Ch → List Ch × List Ch
  | [] => ([], [])
  | c :: L => match lsign k.l c with
    | some a => ([.g a], L)
    | none => match L with
      | [] => ([], [c])
      | d :: L' => if c = qt ∧ (lsign k.l d).isSome = true then ([d], L') else ([], c :: d :: L')
def dright (k : Tk) (L : List Ch) : List Ch × List Ch :=
  match L.getLast? with
  | none => (L, [])
  | some c => match lsign k.r c with
    | none => (L, [])
    | some a => if L.dropLast.getLast? = some qt then (L.dropLast.dropLast, [c]) else (L.dropLast, [.g a])
/-- What characters that begin with a quote mean, and how many of them. -/
def unq (k : Tk) (L : List Ch) : Ch × Nat :=
  match L with
  | d :: L' =>
    if d = qt ∨ (lsign k.t d).isSome = true then (d, 2) else
    match L' with
    | e :: _ => match hexv d, hexv e with
      | some x, some y => if k.inv then (.b (UInt8.ofNat (16 * x + y)), 3) else (qt, 1)
      | _, _ => (qt, 1)
    | [] => (qt, 1)
  | [] => (qt, 1)
def dmid (k : Tk) : Nat → List Ch → List Ch
  | 0, _ => []
  | _ + 1, [] => []
  | f + 1, c :: L => if c = qt then (unq k L).1 :: dmid k f (L.drop ((unq k L).2 - 1)) else (match lsign k.t c with | some a => .g a | none => c) :: dmid k f L
/-- What is read. -/
def decC (k : Tk) (L : List Ch) : List Ch :=
  match undotC k L with
  | some t => t
  | none => (dleft k L).1 ++ dmid k (dright k (dleft k L).2).1.length (dright k (dleft k L).2).1 ++ (dright k (dleft k L).2).2
/-! there and back -/
theorem lsign_g (P : Nat → Bool) (r : Nat) : lsign P (.g r) = match sof r with
    | some c => if P c then some c else none
    | none => none := rfl
theorem signed_g (P : Nat → Bool) (r : Nat) : signed P (.g r) = if P r then some [.g (sgn r)] else match sof r with
    | some c => if P c then some [qt, .g r] else none
    | none => none := rfl
theorem betw_g (k : Tk) (r : Nat) : betw k (.g r) = if r = 8219 then [qt, qt] else (signed k.t (.g r)).getD [.g r] := rfl
theorem betw_b (k : Tk) (x : UInt8) : betw k (.b x) = if k.inv then [qt, .g (hexc (x.toNat / 16)), .g (hexc (x.toNat % 16))] else [.b x] := rfl
theorem lsign_sgn {P : Nat → Bool} {c : Nat} (h : P c = true) (h2 : c < 128) : lsign P (.g (sgn c)) = some c := by
  rw [lsign_g]
  rw [sof_sgn h2]
  simp only [h, if_true]
theorem lsign_low {P : Nat → Bool} {r : Nat} (h : r < 9216) : lsign P (.g r) = none := by
  rw [lsign_g]
  rw [sof_none h]
/-- What P does not write, it does not read as a sign. -/
theorem lsign_of_signed {P : Nat → Bool} {c : Ch} (h : signed P c = none) : lsign P c = none := by
  cases c with
  | b x => rfl
  | g r =>
    rw [signed_g] at h
    split at h
    · cases h
    · rw [lsign_g]
      cases hs : sof r with
      | none => rfl
      | some a =>
        rw [hs] at h
        dsimp only at h ⊢
        split at h
        · cases h
        · rename_i h2; rw [if_neg h2]
/-- What is written by P: a sign of what P takes, or a quote and a sign of such. -/
theorem signed_cases {P : Nat → Bool} {c : Ch} {t : List Ch} (h : signed P c = some t) : (∃ r, c = .g r ∧ P r = true ∧ t = [.g (sgn r)]) ∨ (∃ r a, c = .g r ∧ P r = false ∧ sof r = some a ∧ P a = true ∧ t = [qt, .g r]) := by
  cases c with
  | b x => cases h
  | g r =>
    rw [signed_g] at h
    split at h
    · rename_i h1; cases h; exact .inl ⟨r, rfl, h1, rfl⟩
    · rename_i h1
      cases hs : sof r with
      | none => rw [hs] at h; cases h
      | some a =>
        rw [hs] at h
        dsimp only at h
        split at h
        · rename_i h2; cases h; exact .inr ⟨r, a, rfl, by simpa using h1, hs, h2, rfl⟩
        · cases h
theorem hexv_hexc : ∀ n : Fin 16, hexv (.g (hexc n.val)) = some n.val := by decide
theorem hexc_low (n : Nat) (h : n < 16) : hexc n < 128 := by unfold hexc; split <;> omega
theorem hex_not {n : Nat} (h : n < 16) (P : Nat → Bool) : (Ch.g (hexc n) = qt) = False ∧ lsign P (.g (hexc n)) = none := by
  have := hexc_low n h
  refine ⟨?_, lsign_low (by omega)⟩
  simp only [Ch.g.injEq, eq_iff_iff, iff_false]
  omega
/-- One character's writing is read as that character. -/
theorem dmid_betw {k : Tk} (hk : k.Ok) (f : Nat) (c : Ch) (R : List Ch) : dmid k (f + 1) (betw k c ++ R) = c :: dmid k f R := by
  cases c with
  | b x =>
    rw [betw_b]
    cases hi : k.inv with
    | false => rfl
    | true =>
      have hx := x.toNat_lt
      have h1 := hexv_hexc ⟨x.toNat / 16, by omega⟩
      have h2 := hexv_hexc ⟨x.toNat % 16, by omega⟩
      have n1 := hex_not (n := x.toNat / 16) (by omega) k.t
      simp only [if_true, List.cons_append, List.nil_append, dmid]
      have hu : unq k (.g (hexc (x.toNat / 16)) :: .g (hexc (x.toNat % 16)) :: R) = (.b x, 3) := by
        simp only [unq, n1.1, n1.2, Option.isSome_none, Bool.false_eq_true, or_self, if_false, h1, h2, hi, if_true]
        rw [show 16 * (x.toNat / 16) + x.toNat % 16 = x.toNat by omega, UInt8.ofNat_toNat]
      rw [hu]
      rfl
  | g r =>
    by_cases hq : r = 8219
    · subst hq
      show dmid k (f + 1) (qt :: qt :: R) = _
      simp only [dmid, if_true, unq, true_or]
      rfl
    · rw [betw_g]
      rw [if_neg hq]
      have hne : (Ch.g r = qt) = False := by simp only [Ch.g.injEq, eq_iff_iff, iff_false]; exact hq
      cases hs : signed k.t (.g r) with
      | none =>
        have hl := lsign_of_signed hs
        simp only [Option.getD_none, List.cons_append, List.nil_append, dmid, hne, if_false, hl]
      | some t =>
        rcases signed_cases hs with ⟨r', e, h1, rfl⟩ | ⟨r', a, e, h1, h2, h3, rfl⟩
        · cases e
          have hlt := hk.t r h1
          have hge := sgn_ge r
          have hne2 : (Ch.g (sgn r) = qt) = False := by simp only [Ch.g.injEq, eq_iff_iff, iff_false]; omega
          simp only [Option.getD_some, List.cons_append, List.nil_append, dmid, hne2, if_false, lsign_sgn h1 hlt]
        · cases e
          have hl : lsign k.t (.g r) = some a := by rw [lsign_g, h2]; simp only [h3, if_true]
          simp only [Option.getD_some, List.cons_append, List.nil_append, dmid, if_true, unq, hl, Option.isSome_some, or_true]
          rfl
theorem betw_ne (k : Tk) (c : Ch) : betw k c ≠ [] := by
  cases c with
  | b x => rw [betw_b]; split <;> simp
  | g r =>
    rw [betw_g]
    split
    · simp
    · cases hs : signed k.t (.g r) with
      | none => simp
      | some t => rcases signed_cases hs with ⟨r', e, h1, rfl⟩ | ⟨r', a, e, h1, h2, h3, rfl⟩ <;> simp
theorem dmid_all {k : Tk} (hk : k.Ok) : ∀ (M : List Ch) (f : Nat), M.length ≤ f → dmid k f (M.flatMap (betw k)) = M
  | [], 0, _ => rfl
  | [], f + 1, _ => rfl
  | c :: M, 0, h => by simp at h
  | c :: M, f + 1, h => by
    rw [List.flatMap_cons, dmid_betw hk, dmid_all hk M f (by simpa using h)]
theorem len_betw (k : Tk) : ∀ M : List Ch, M.length ≤ (M.flatMap (betw k)).length
  | [] => Nat.le_refl _
  | c :: M => by
    have := len_betw k M
    have h := List.length_pos_iff.2 (betw_ne k c)
    rw [List.flatMap_cons, List.length_append, List.length_cons]
    omega
/-- The last character of what is written of one: none that the right reads, if the right did not write it. -/
theorem betw_last {k : Tk} {P : Nat → Bool} (hk : k.Ok) {c : Ch} (h : signed P c = none) : ∃ x, (betw k c).getLast? = some x ∧ lsign P x = none ∧ (x = qt → c = qt) := by
  cases c with
  | b x =>
    rw [betw_b]
    split
    · have := x.toNat_lt
      have := hex_not (n := x.toNat % 16) (by omega) P
      exact ⟨.g (hexc (x.toNat % 16)), rfl, this.2, fun e => by rw [this.1] at e; exact e.elim⟩
    · exact ⟨.b x, rfl, rfl, fun e => by cases e⟩
  | g r =>
    rw [betw_g]
    split
    · rename_i e; subst e; exact ⟨qt, rfl, lsign_low (by omega), fun _ => rfl⟩
    · rename_i hq
      cases hs : signed k.t (.g r) with
      | none => exact ⟨.g r, rfl, lsign_of_signed h, fun e => e⟩
      | some t =>
        rcases signed_cases hs with ⟨r', e, h1, rfl⟩ | ⟨r', a, e, h1, h2, h3, rfl⟩
        · cases e
          refine ⟨.g (sgn r), rfl, ?_, fun e => ?_⟩
          · rw [lsign_g]
            rw [sof_sgn (hk.t r h1)]
            rw [signed_g] at h
            cases hp : P r with
            | true => rw [hp] at h; cases h
            | false => simp [hp]
          · exfalso
            have := sgn_ge r
            simp only [Ch.g.injEq] at e
            omega
        · cases e
          exact ⟨.g r, rfl, lsign_of_signed h, fun e => e⟩
/-- The first: none that the left reads, as it is or behind a quote. -/
theorem betw_first {k : Tk} {P : Nat → Bool} (hk : k.Ok) {c : Ch} (h : signed P c = none) : ∃ x T, betw k c = x :: T ∧ lsign P x = none ∧ (x = qt → ∃ y T', T = y :: T' ∧ lsign P y = none) := by
  cases c with
  | b x =>
    rw [betw_b]
    split
    · have := x.toNat_lt
      exact ⟨_, _, rfl, lsign_low (by omega), fun _ => ⟨_, _, rfl, (hex_not (n := x.toNat / 16) (by omega) P).2⟩⟩
    · exact ⟨_, _, rfl, rfl, fun e => by cases e⟩
  | g r =>
    rw [betw_g]
    split
    · exact ⟨_, _, rfl, lsign_low (by omega), fun _ => ⟨_, _, rfl, lsign_low (by omega)⟩⟩
    · rename_i hq
      cases hs : signed k.t (.g r) with
      | none => exact ⟨_, _, rfl, lsign_of_signed h, fun e => absurd (by simpa using e) hq⟩
      | some t =>
        rcases signed_cases hs with ⟨r', e, h1, rfl⟩ | ⟨r', a, e, h1, h2, h3, rfl⟩
        · cases e
          refine ⟨_, _, rfl, ?_, fun e => ?_⟩
          · rw [lsign_g]
            rw [sof_sgn (hk.t r h1)]
            rw [signed_g] at h
            cases hp : P r with
            | true => rw [hp] at h; cases h
            | false => simp [hp]
          · exfalso
            have := sgn_ge r
            simp only [Ch.g.injEq] at e
            omega
        · cases e
          exact ⟨_, _, rfl, lsign_low (by omega), fun _ => ⟨_, _, rfl, lsign_of_signed h⟩⟩
/-- The same of what the right has written. -/
theorem tail_first {P Q : Nat → Bool} (hP : ∀ c, Q c = true → c < 128) {c : Ch} {t : List Ch} (h : signed P c = none) (ht : signed Q c = some t) : ∃ x T, t = x :: T ∧ lsign P x = none ∧ (x = qt → ∃ y T', T = y :: T' ∧ lsign P y = none) := by
  rcases signed_cases ht with ⟨r, rfl, h1, rfl⟩ | ⟨r, a, rfl, h1, h2, h3, rfl⟩
  · refine ⟨_, _, rfl, ?_, fun e => ?_⟩
    · rw [lsign_g]
      rw [sof_sgn (hP r h1)]
      rw [signed_g] at h
      cases hp : P r with
      | true => rw [hp] at h; cases h
      | false => simp [hp]
    · exfalso
      have := sgn_ge r
      simp only [Ch.g.injEq] at e
      omega
  · exact ⟨_, _, rfl, lsign_low (by omega), fun _ => ⟨_, _, rfl, lsign_of_signed h⟩⟩
theorem dleft_cons (k : Tk) (c : Ch) (L : List Ch) : dleft k (c :: L) = match lsign k.l c with
    | some a => ([.g a], L)
    | none => match L with
      | [] => ([], [c])
      | d :: L' => if c = qt ∧ (lsign k.l d).isSome = true then ([d], L') else ([], c :: d :: L') := rfl
theorem dleft_none {k : Tk} {L : List Ch} (h : L = [] ∨ ∃ x T, L = x :: T ∧ lsign k.l x = none ∧ (x = qt → ∀ y T', T = y :: T' → lsign k.l y = none)) : dleft k L = ([], L) := by
  rcases h with rfl | ⟨x, T, rfl, h1, h2⟩
  · rfl
  · rw [dleft_cons]
    rw [h1]
    cases T with
    | nil => rfl
    | cons y T =>
      dsimp only
      rw [if_neg]
      rintro ⟨e, h3⟩
      rw [h2 e y T rfl] at h3
      cases h3
/-- What the left wrote is read by the left. -/
theorem dleft_head {k : Tk} (hk : k.Ok) {c : Ch} {t : List Ch} (h : signed k.l c = some t) (R : List Ch) : dleft k (t ++ R) = ([c], R) := by
  rcases signed_cases h with ⟨r, rfl, h1, rfl⟩ | ⟨r, a, rfl, h1, h2, h3, rfl⟩
  · show dleft k (.g (sgn r) :: R) = _
    rw [dleft_cons]
    rw [lsign_sgn h1 (hk.l r h1)]
  · show dleft k (qt :: .g r :: R) = _
    have hl : lsign k.l (.g r) = some a := by rw [lsign_g, h2]; simp only [h3, if_true]
    rw [dleft_cons]
    rw [lsign_low (by omega)]
    simp only [hl, Option.isSome_some, and_self, if_true]
theorem dright_tail {k : Tk} (hk : k.Ok) {c : Ch} {t : List Ch} (h : signed k.r c = some t) {R : List Ch} (hR : R.getLast? ≠ some qt) : dright k (R ++ t) = (R, [c]) := by
  rcases signed_cases h with ⟨r, rfl, h1, rfl⟩ | ⟨r, a, rfl, h1, h2, h3, rfl⟩
  · unfold dright
    rw [List.getLast?_concat]
    dsimp only
    rw [lsign_sgn h1 (hk.r r h1)]
    dsimp only
    rw [List.dropLast_concat, if_neg hR]
  · have e : R ++ [qt, .g r] = (R ++ [qt]) ++ [.g r] := by simp
    have hl : lsign k.r (.g r) = some a := by rw [lsign_g, h2]; simp only [h3, if_true]
    unfold dright
    rw [e, List.getLast?_concat]
    dsimp only
    rw [hl]
    dsimp only
    rw [List.dropLast_concat, List.getLast?_concat, if_pos rfl, List.dropLast_concat]
theorem dright_none {k : Tk} {L : List Ch} (h : L = [] ∨ ∃ x, L.getLast? = some x ∧ lsign k.r x = none) : dright k L = (L, []) := by
  rcases h with rfl | ⟨x, h1, h2⟩
  · rfl
  · unfold dright
    rw [h1]
    dsimp only
    rw [h2]
end Go.Proofs.YtonmnpmklkbioaaDoor.Pt
/- What is written of a name, character by character, is read back: plain. -/
namespace Go.Proofs.YtonmnpmklkbioaaDoor.Pt
open Go.Lib
set_option linter.unusedVariables false
set_option linter.unusedSimpArgs false
def enc1 (k : Tk) (L : List Ch) : List Ch := (leftC k L).1 ++ (rightC k (leftC k L).2).1.flatMap (betw k) ++ (rightC k (leftC k L).2).2
def dec1 (k : Tk) (L : List Ch) : List Ch := (dleft k L).1 ++ dmid k (dright k (dleft k L).2).1.length (dright k (dleft k L).2).1 ++ (dright k (dleft k L).2).2
/-- A quote stands right ahead of a last character that the right takes. -/
def quoteOpen (k : Tk) (L : List Ch) : Prop := ∃ M r, L = M ++ [qt, .g r] ∧ k.r r = true
theorem left_cases (k : Tk) (L : List Ch) : (∃ c t R, L = c :: R ∧ signed k.l c = some t ∧ leftC k L = (t, R)) ∨ (leftC k L = ([], L) ∧ (L = [] ∨ ∃ c R, L = c :: R ∧ signed k.l c = none)) := by
  cases L with
  | nil => exact .inr ⟨rfl, .inl rfl⟩
  | cons c R =>
    have e : leftC k (c :: R) = match signed k.l c with
      | some t => (t, R)
      | none => ([], c :: R) := rfl
    cases h : signed k.l c with
    | some t => rw [h] at e; exact .inl ⟨c, t, R, rfl, h, e⟩
    | none => rw [h] at e; exact .inr ⟨e, .inr ⟨c, R, rfl, h⟩⟩
theorem right_cases (k : Tk) (L : List Ch) : (∃ M c t, L = M ++ [c] ∧ signed k.r c = some t ∧ rightC k L = (M, t)) ∨ (rightC k L = (L, []) ∧ (L = [] ∨ ∃ M c, L = M ++ [c] ∧ signed k.r c = none)) := by
  by_cases hL : L = []
  · subst hL; exact .inr ⟨rfl, .inl rfl⟩
  · obtain ⟨M, c, rfl⟩ : ∃ M c, L = M ++ [c] := ⟨L.dropLast, L.getLast hL, (List.dropLast_concat_getLast hL).symm⟩
    have e : rightC k (M ++ [c]) = match signed k.r c with
      | some t => (M, t)
      | none => (M ++ [c], []) := by
      unfold rightC
      rw [List.getLast?_concat]
      dsimp only
      rw [List.dropLast_concat]
      try (cases signed k.r c <;> rfl)
    cases h : signed k.r c with
    | some t => rw [h] at e; exact .inl ⟨M, c, t, rfl, h, e⟩
    | none => rw [h] at e; exact .inr ⟨e, .inr ⟨M, c, rfl, h⟩⟩
theorem flat_last (k : Tk) (M : List Ch) (c : Ch) : ((M ++ [c]).flatMap (betw k)).getLast? = (betw k c).getLast? := by
  rw [List.flatMap_append, List.flatMap_cons, List.flatMap_nil, List.append_nil, List.getLast?_append]
  cases h : (betw k c).getLast? with
  | none => exact absurd (List.getLast?_eq_none_iff.1 h) (betw_ne k c)
  | some x => rfl
theorem dright_quoted {k : Tk} {r a : Nat} (h2 : sof r = some a) (h3 : k.r a = true) (R : List Ch) : dright k (R ++ [qt, .g r]) = (R, [.g r]) := by
  have e : R ++ [qt, .g r] = (R ++ [qt]) ++ [.g r] := by simp
  have hl : lsign k.r (.g r) = some a := by rw [lsign_g, h2]; simp only [h3, if_true]
  unfold dright
  rw [e, List.getLast?_concat]
  dsimp only
  rw [hl]
  dsimp only
  rw [List.dropLast_concat, List.getLast?_concat, if_pos rfl, List.dropLast_concat]
theorem core_right {k : Tk} (hk : k.Ok) {L : List Ch} (h : ¬ quoteOpen k L) : dright k ((rightC k L).1.flatMap (betw k) ++ (rightC k L).2) = ((rightC k L).1.flatMap (betw k), match rightC k L with | (M, _) => L.drop M.length) := by
  rcases right_cases k L with ⟨M, c, t, rfl, h1, h2⟩ | ⟨h1, h2⟩
  · rw [h2]
    dsimp only
    rw [List.drop_left]
    rcases signed_cases h1 with ⟨r, rfl, h3, rfl⟩ | ⟨r, a, rfl, h3, h4, h5, rfl⟩
    · refine dright_tail hk h1 ?_
      intro e
      by_cases hM : M = []
      · subst hM; cases e
      · obtain ⟨M', c', rfl⟩ : ∃ M' c', M = M' ++ [c'] := ⟨M.dropLast, M.getLast hM, (List.dropLast_concat_getLast hM).symm⟩
        rw [flat_last] at e
        obtain ⟨x, hx1, _, hx2⟩ := betw_last (k := k) (P := fun _ => false) hk (c := c') (by
          cases c' with
          | b x => rfl
          | g r => rw [signed_g, if_neg (by simp)]; cases sof r <;> simp)
        rw [hx1] at e
        have := hx2 (Option.some.inj e)
        subst this
        exact h ⟨M', r, by simp, h3⟩
    · exact dright_quoted h4 h5 _
  · rw [h1]
    dsimp only
    rw [List.append_nil, List.drop_length]
    refine dright_none ?_
    rcases h2 with rfl | ⟨M, c, rfl, h2⟩
    · exact .inl rfl
    · obtain ⟨x, hx1, hx2, _⟩ := betw_last (k := k) hk h2
      exact .inr ⟨x, by rw [flat_last]; exact hx1, hx2⟩
theorem right_join (k : Tk) (L : List Ch) : (rightC k L).1 ++ L.drop (rightC k L).1.length = L := by
  rcases right_cases k L with ⟨M, c, t, rfl, h1, h2⟩ | ⟨h1, h2⟩
  · rw [h2]; dsimp only; rw [List.drop_left]
  · rw [h1]; dsimp only; rw [List.drop_length, List.append_nil]
theorem core {k : Tk} (hk : k.Ok) {L : List Ch} (h : ¬ quoteOpen k L) : dec1 k (enc1 k L) = L := by
  obtain ⟨R, hR⟩ : ∃ R, (leftC k L).2 = R := ⟨_, rfl⟩
  have hX : dleft k (enc1 k L) = (L.take (L.length - R.length), (rightC k R).1.flatMap (betw k) ++ (rightC k R).2) ∧ ∃ A, L = A ++ R := by
    rcases left_cases k L with ⟨c, t, R', rfl, h1, h2⟩ | ⟨h1, h2⟩
    · rw [h2] at hR
      cases hR
      refine ⟨?_, [c], rfl⟩
      unfold enc1
      rw [h2]
      dsimp only
      rw [List.append_assoc, dleft_head hk h1]
      congr 1
      rw [List.length_cons, show R'.length + 1 - R'.length = 1 by omega]
      rfl
    · rw [h1] at hR
      cases hR
      refine ⟨?_, [], rfl⟩
      unfold enc1
      rw [h1]
      dsimp only
      rw [List.nil_append, Nat.sub_self, List.take_zero]
      refine dleft_none ?_
      rcases h2 with rfl | ⟨c, R', rfl, h2⟩
      · exact .inl rfl
      · right
        have fin : ∀ (x : Ch) (T Y : List Ch), lsign k.l x = none → (x = qt → ∃ y T', T = y :: T' ∧ lsign k.l y = none) → ∃ x' T', (x :: T) ++ Y = x' :: T' ∧ lsign k.l x' = none ∧ (x' = qt → ∀ y T'', T' = y :: T'' → lsign k.l y = none) := by
          intro x T Y hx1 hx2
          refine ⟨x, T ++ Y, rfl, hx1, fun e y T'' he => ?_⟩
          obtain ⟨y', T', rfl, hy⟩ := hx2 e
          cases he
          exact hy
        rcases right_cases k (c :: R') with ⟨M, d, t, h3, h4, h5⟩ | ⟨h5, _⟩
        · rw [h5]
          dsimp only
          cases M with
          | nil =>
            simp only [List.nil_append, List.cons.injEq] at h3
            obtain ⟨rfl, rfl⟩ := h3
            obtain ⟨x, T, rfl, hx1, hx2⟩ := tail_first hk.r h2 h4
            exact fin x T [] hx1 hx2 |>.imp fun x' h => h.imp fun T' h => ⟨by rw [← h.1]; simp, h.2⟩
          | cons m M' =>
            simp only [List.cons_append, List.cons.injEq] at h3
            obtain ⟨rfl, _⟩ := h3
            obtain ⟨x, T, hx0, hx1, hx2⟩ := betw_first (k := k) hk h2
            rw [List.flatMap_cons, hx0, List.append_assoc]
            exact fin x T _ hx1 hx2
        · rw [h5]
          dsimp only
          obtain ⟨x, T, hx0, hx1, hx2⟩ := betw_first (k := k) hk h2
          rw [List.flatMap_cons, hx0, List.append_assoc]
          exact fin x T _ hx1 hx2
  obtain ⟨hX, A, hA⟩ := hX
  have hopen : ¬ quoteOpen k R := by
    rintro ⟨M, r, e, hr⟩
    exact h ⟨A ++ M, r, by rw [hA, e, List.append_assoc], hr⟩
  have hr := core_right hk hopen
  unfold dec1
  rw [hX]
  dsimp only
  rw [hr]
  dsimp only
  rw [dmid_all hk _ _ (len_betw k _)]
  rw [List.append_assoc, right_join]
  conv => rhs; rw [hA]
  congr 1
  rw [hA, List.length_append, Nat.add_sub_cancel, List.take_left]
/-! with the names of points -/
/-- What is left open. -/
def Open (k : Tk) (L : List Ch) : Prop := (k.dot = true ∧ k.l 46 ≠ k.r 46 ∧ (L = [.g 46, .g 65294] ∨ L = [.g 65294, .g 46])) ∨ quoteOpen k L
theorem ls_dot (P : Nat → Bool) : lsign P (.g 65294) = if P 46 then some 46 else none := rfl
theorem hx_dot : hexv (.g 65294) = none := rfl
theorem ls_qt (P : Nat → Bool) : lsign P qt = none := rfl
theorem enc_quote {k : Tk} (hk : k.Ok) (L : List Ch) : ∃ T, enc1 k (qt :: .g 65294 :: L) = qt :: qt :: T := by
  have hs : ∀ P : Nat → Bool, (∀ c, P c = true → c < 128) → signed P qt = none := by
    intro P hP
    rw [signed_g, if_neg]
    · rfl
    · intro e
      have := hP _ e
      omega
  have hl : leftC k (qt :: .g 65294 :: L) = ([], qt :: .g 65294 :: L) := by
    rcases left_cases k (qt :: .g 65294 :: L) with ⟨c, t, R, e, h1, h2⟩ | ⟨h1, _⟩
    · cases e
      rw [hs _ hk.l] at h1
      cases h1
    · exact h1
  unfold enc1
  rw [hl]
  dsimp only
  rcases right_cases k (qt :: .g 65294 :: L) with ⟨M, c, t, e, h1, h2⟩ | ⟨h1, _⟩
  · rw [h2]
    cases M with
    | nil => cases e
    | cons m M =>
      simp only [List.cons_append, List.cons.injEq] at e
      obtain ⟨rfl, _⟩ := e
      exact ⟨_, rfl⟩
  · rw [h1]
    exact ⟨_, rfl⟩
theorem back {k : Tk} (hk : k.Ok) (hdot : k.t 46 = false) {L : List Ch} (h : ¬ Open k L) : decC k (encC k L) = L := by
  have hq : ¬ quoteOpen k L := fun e => h (.inr e)
  have hc := core hk hq
  have key : dotC k L = none → decC k (enc1 k L) = L := by
    intro hd
    have hu : undotC k (enc1 k L) = none := by
      unfold undotC
      unfold dotC at hd
      cases hdt : k.dot with
      | false => rfl
      | true =>
        rw [hdt] at hd
        rw [if_pos rfl] at hd ⊢
        have d1 : L ≠ [.g 46] := fun e => by rw [if_pos e] at hd; cases hd
        rw [if_neg d1] at hd
        have d2 : L ≠ [.g 46, .g 46] := fun e => by rw [if_pos e] at hd; cases hd
        rw [if_neg d2] at hd
        have d3 : L ≠ [.g 65294] := fun e => by rw [if_pos e] at hd; cases hd
        rw [if_neg d3] at hd
        have d4 : L ≠ [.g 65294, .g 65294] := fun e => by rw [if_pos e] at hd; cases hd
        have ho : k.l 46 ≠ k.r 46 → L ≠ [.g 46, .g 65294] ∧ L ≠ [.g 65294, .g 46] := fun hne => ⟨fun e => h (.inl ⟨hdt, hne, .inl e⟩), fun e => h (.inl ⟨hdt, hne, .inr e⟩)⟩
        rw [if_neg, if_neg, if_neg, if_neg]
        · intro e
          have e' := e
          rw [e] at hc
          cases h1 : k.l 46 <;> cases h2 : k.r 46 <;> simp [dec1, dleft, dright, dmid, unq, lsign_g, ls_dot, ls_qt, hx_dot, h1, h2, hdot, sof] at hc
          all_goals first
            | exact d4 hc.symm
            | skip
          · obtain ⟨T, hT⟩ := enc_quote hk [qt, .g 65294]
            rw [← hc, hT] at e'
            cases e'
          · obtain ⟨T, hT⟩ := enc_quote hk [.g 65294]
            rw [← hc, hT] at e'
            cases e'
          · rw [← hc] at e'
            have hl : leftC k [.g 65294, qt, .g 65294] = ([qt, .g 65294], [qt, .g 65294]) := by
              have hs : signed k.l (.g 65294) = some [qt, .g 65294] := by
                rw [signed_g, if_neg]
                · show (if k.l 46 = true then some [qt, Ch.g 65294] else none) = _
                  rw [if_pos h1]
                · intro e; have := hk.l _ e; omega
              rcases left_cases k [.g 65294, qt, .g 65294] with ⟨c, t, R, e, g1, g2⟩ | ⟨_, g | ⟨c, R, e, g1⟩⟩
              · cases e
                rw [hs] at g1
                cases g1
                exact g2
              · cases g
              · cases e
                rw [hs] at g1
                cases g1
            have hl2 : leftC k [qt, .g 65294] = ([], [qt, .g 65294]) := by
              rcases left_cases k [qt, .g 65294] with ⟨c, t, R, e, g1, g2⟩ | ⟨g1, _⟩
              · cases e
                rw [signed_g, if_neg (by intro e; have := hk.l _ e; omega)] at g1
                cases g1
              · exact g1
            obtain ⟨T, hT⟩ := enc_quote hk []
            unfold enc1 at e' hT
            rw [hl2] at hT
            rw [hl] at e'
            dsimp only at e' hT
            rw [List.append_assoc] at e' hT
            rw [List.nil_append] at hT
            rw [hT] at e'
            cases e'
        · intro e
          have e' := e
          rw [e] at hc
          cases h1 : k.l 46 <;> cases h2 : k.r 46 <;> simp [dec1, dleft, dright, dmid, unq, lsign_g, ls_dot, ls_qt, hx_dot, h1, h2, hdot, sof] at hc
          all_goals first
            | exact d3 hc.symm
            | skip
          obtain ⟨T, hT⟩ := enc_quote hk []
          rw [← hc, hT] at e'
          cases e'
        · intro e
          rw [e] at hc
          cases h1 : k.l 46 <;> cases h2 : k.r 46 <;> simp [dec1, dleft, dright, dmid, unq, lsign_g, ls_dot, ls_qt, hx_dot, h1, h2, hdot, sof] at hc
          all_goals first
            | exact d2 hc.symm
            | exact d4 hc.symm
            | exact (ho (by rw [h1, h2]; decide)).1 hc.symm
            | exact (ho (by rw [h1, h2]; decide)).2 hc.symm
        · intro e
          rw [e] at hc
          cases h1 : k.l 46 <;> cases h2 : k.r 46 <;> simp [dec1, dleft, dright, dmid, unq, lsign_g, ls_dot, ls_qt, hx_dot, h1, h2, hdot, sof] at hc
          all_goals first
            | exact d1 hc.symm
            | exact d3 hc.symm
    unfold decC
    rw [hu]
    exact hc
  unfold encC
  cases hd : dotC k L with
  | none => exact key hd
  | some t =>
    dsimp only
    unfold decC
    have : undotC k t = some L := by
      unfold dotC at hd
      unfold undotC
      split at hd
      · rename_i hdt
        rw [if_pos hdt]
        split at hd
        · rename_i e; cases hd; rw [e]; rfl
        · split at hd
          · rename_i e; cases hd; rw [e]; rfl
          · split at hd
            · rename_i e; cases hd; rw [e]; rfl
            · split at hd
              · rename_i e; cases hd; rw [e]; rfl
              · cases hd
      · cases hd
    rw [this]
end Go.Proofs.YtonmnpmklkbioaaDoor.Pt
/- What Encode writes for one character is what the plain words say. -/
namespace Go.Proofs.YtonmnpmklkbioaaDoor.Sy
open Go.RowKit Go.Proofs.YtonmnpmklkbioaaDoorW.PrintWords
open Go.Proofs.YtonmnpmklkbioaaDoor.Pt (Ch Tk flat chars chs Good isBad sgn sof signed betw leftC rightC encC dotC hexc isC run Pr)
set_option linter.unusedVariables false
set_option linter.unusedSimpArgs false
/-- The bits that take a character of ASCII wherever it stands. -/
def bitsOf (c : Nat) : List Int :=
  if c = 47 then [2] else if c = 60 then [4] else if c = 62 then [4] else if c = 34 then [8] else if c = 39 then [16] else if c = 96 then [32] else if c = 36 then [64]
  else if c = 58 then [128] else if c = 63 then [256] else if c = 42 then [512] else if c = 124 then [1024] else if c = 35 then [2048] else if c = 37 then [4096] else if c = 92 then [8192]
  else if c = 13 then [16384, 65536] else if c = 10 then [16384, 65536] else if c = 127 then [32768] else if c = 91 then [67108864] else if c = 93 then [67108864]
  else if c = 59 then [134217728] else if c = 33 then [268435456] else if 1 ≤ c ∧ c ≤ 31 then [65536] else []
/-- What a mask takes. -/
def tkm (m : Int) : Tk where
  t c := Nat.beq c 0 || (bitsOf c).any (hasB m)
  l c := (Nat.beq c 32 && hasB m 131072) || (Nat.beq c 46 && hasB m 262144) || (Nat.beq c 126 && hasB m 524288) || ((Nat.beq c 9 || Nat.beq c 10 || Nat.beq c 11 || Nat.beq c 13) && hasB m 1048576)
  r c := (Nat.beq c 32 && hasB m 2097152) || (Nat.beq c 46 && hasB m 4194304) || ((Nat.beq c 9 || Nat.beq c 10 || Nat.beq c 11 || Nat.beq c 13) && hasB m 8388608)
  inv := hasB m 16777216
  dot := hasB m 33554432
theorem bitsOf_big {c : Nat} (h : 128 ≤ c) : bitsOf c = [] := by
  unfold bitsOf
  repeat rw [if_neg (by omega)]
theorem tkm_ok (m : Int) : (tkm m).Ok where
  t c h := by
    by_cases hc : c < 128
    · exact hc
    · have h' : (Nat.beq c 0 || (bitsOf c).any (hasB m)) = true := h
      rw [bitsOf_big (by omega)] at h'
      simp at h'
      omega
  l c h := by
    have h' : ((Nat.beq c 32 && hasB m 131072) || (Nat.beq c 46 && hasB m 262144) || (Nat.beq c 126 && hasB m 524288) || ((Nat.beq c 9 || Nat.beq c 10 || Nat.beq c 11 || Nat.beq c 13) && hasB m 1048576)) = true := h
    simp only [Bool.or_eq_true, Bool.and_eq_true, Nat.beq_eq] at h'
    omega
  r c h := by
    have h' : ((Nat.beq c 32 && hasB m 2097152) || (Nat.beq c 46 && hasB m 4194304) || ((Nat.beq c 9 || Nat.beq c 10 || Nat.beq c 11 || Nat.beq c 13) && hasB m 8388608)) = true := h
    simp only [Bool.or_eq_true, Bool.and_eq_true, Nat.beq_eq] at h'
    omega
theorem tkm_dot (m : Int) : (tkm m).t 46 = false := rfl
/-! one rune's trees -/
def outI (r : Int) : List Ef → Option (List Int)
  | [] => some []
  | .rn y :: l => (outI r l).map (y.int r :: ·)
  | _ :: _ => none
def formG (r : Int) : List (DS Ab Ef) → Option (List (Int × List Int) × List Int)
  | [] => none
  | [.leaf ⟨.normal, _, tr⟩] => (outI r tr).map fun o => ([], o)
  | [.br (.has b) (.leaf ⟨_, _, tr⟩) (.leaf ⟨_, _, tr'⟩)] => match outI r tr, outI r tr' with
    | some o, some o' => if o = o' then some ([], o') else some ([(b, o)], o')
    | _, _ => none
  | .leaf ⟨.exit 6, _, tr⟩ :: _ => (outI r tr).map fun o => ([], o)
  | .leaf ⟨.normal, _, []⟩ :: l => formG r l
  | .br (.has b) (.leaf ⟨.exit 6, _, tr⟩) (.leaf ⟨.normal, _, []⟩) :: l => match outI r tr, formG r l with
    | some o, some F => some ((b, o) :: F.1, F.2)
    | _, _ => none
  | _ => none
def pick (m : Int) : List (Int × List Int) → List Int → List Int
  | [], o => o
  | (b, o) :: l, o' => bif hasB m b then o else pick m l o'
theorem outI_flat (r : Int) : ∀ (tr : List Ef) (o : List Int), outI r tr = some o → (tr.map (ebr r)).flatten = o.flatMap Lib.encodeRune
  | [], o, h => by cases h; rfl
  | e :: l, o, h => by
    cases e with
    | rn y =>
      obtain ⟨o', h1, rfl⟩ := Option.map_eq_some_iff.1 h
      rw [List.map_cons, List.flatten_cons, outI_flat r l o' h1]
      rfl
    | gr => cases h
    | st s => cases h
    | qt => cases h
theorem runS_one {A F : Type} (B : A → Bool) (d : DS A F) : runS B [d] = d.run B := rfl
theorem runS_exit {A F : Type} (B : A → Bool) (d : DS A F) (l : List (DS A F)) {n : Nat} {es : List (Option (E A))} {tr : List F} (h : d.run B = ⟨.exit n, es, tr⟩) : (runS B (d :: l)).tr = tr := by
  cases l with
  | nil => show (d.run B).tr = tr; rw [h]
  | cons d2 l => simp only [runS, h]
theorem formG_run (m r : Int) : ∀ (ds : List (DS Ab Ef)) (F : List (Int × List Int) × List Int), formG r ds = some F → ((runS (Bmr m r) ds).tr.map (ebr r)).flatten = (pick m F.1 F.2).flatMap Lib.encodeRune := by
  intro ds
  induction ds with
  | nil => intro F h; cases h
  | cons d ds ih =>
    intro F h
    unfold formG at h
    split at h
    · rename_i heq; cases heq
    · rename_i heq
      cases heq
      obtain ⟨o, h1, rfl⟩ := Option.map_eq_some_iff.1 h
      exact outI_flat r _ o h1
    · rename_i b e1 s1 tr e2 s2 tr' heq
      cases heq
      split at h
      · rename_i o o' h1 h2
        have hp : ((runS (Bmr m r) [DS.br (.has b) (.leaf ⟨e1, s1, tr⟩) (.leaf ⟨e2, s2, tr'⟩)]).tr.map (ebr r)).flatten = (bif hasB m b then o else o').flatMap Lib.encodeRune := by
          rw [runS_one]
          simp only [DS.run, Bmr]
          cases hasB m b with
          | true => exact outI_flat r _ o h1
          | false => exact outI_flat r _ o' h2
        split at h
        · rename_i e
          cases h
          rw [hp, e]
          cases hasB m b <;> rfl
        · cases h
          exact hp
      · cases h
    · rename_i heq
      cases heq
      obtain ⟨o, h1, rfl⟩ := Option.map_eq_some_iff.1 h
      rw [runS_exit _ _ _ rfl]
      exact outI_flat r _ o h1
    · rename_i heq
      cases heq
      have hne : ∃ d2 l2, ds = d2 :: l2 := by
        cases ds with
        | nil => cases h
        | cons d2 l2 => exact ⟨d2, l2, rfl⟩
      obtain ⟨d2, l2, rfl⟩ := hne
      rw [runS_cons (es := _) (tr := []) _ _ _ _ rfl]
      exact ih F h
    · rename_i b s1 tr s2 l0 hno heq
      cases heq
      split at h
      · rename_i o F' h1 h2
        cases h
        have hne : ∃ d2 l2, ds = d2 :: l2 := by
          cases ds with
          | nil => cases h2
          | cons d2 l2 => exact ⟨d2, l2, rfl⟩
        obtain ⟨d2, l2, rfl⟩ := hne
        show _ = (bif hasB m b then o else pick m F'.1 F'.2).flatMap Lib.encodeRune
        cases hb : hasB m b with
        | true =>
          rw [runS_exit (n := 6) (es := s1) (tr := tr) _ _ _ (by simp only [DS.run, Bmr, hb, cond_true])]
          exact outI_flat r _ o h1
        | false =>
          rw [runS_cons (es := _) (tr := []) _ _ _ _ (by simp only [DS.run, Bmr, hb, cond_false]; rfl)]
          exact ih F' h2
      · cases h
    · cases h
def specF (r : Nat) : List (Int × List Int) × List Int :=
  if r = 0 then ([], [9216]) else if r = 9216 ∨ r = 8219 then ([], [8219, (r : Int)])
  else if r < 128 then ((bitsOf r).map fun b => (b, [(sgn r : Int)]), [(r : Int)])
  else match sof r with
    | some c => ((bitsOf c).map fun b => (b, [8219, (r : Int)]), [(r : Int)])
    | none => ([], [(r : Int)])
/-- The runes that the trees speak of. -/
def specials : List Nat := List.range 128 ++ [8219] ++ (List.range 34).map (· + 9216) ++ (List.range 94).map (· + 65281)
set_option maxRecDepth 100000 in
theorem specials_ok : (specials.all fun (r : Nat) => decide (formG (r : Int) (h0.map (norm (knR (r : Int)))) = some (specF r))) = true := by kernel_rfl
/-- The comparisons of a rune between two bounds. -/
def knI (lo hi : Int) : Ab → Option Bool
  | .cmp .eq c => if c < lo ∨ hi < c then some false else none
  | .cmp .le c => if c < lo then some false else if hi ≤ c then some true else none
  | .cmp .ge c => if hi < c then some false else if c ≤ lo then some true else none
  | .cmp .gt c => if hi ≤ c then some false else if c < lo then some true else none
  | _ => none
theorem knI_ok {lo hi : Int} (m r : Int) (h1 : lo ≤ r) (h2 : r ≤ hi) : ∀ t v, knI lo hi t = some v → Bmr m r t = v := by
  intro t v h
  unfold knI at h
  split at h
  · split at h
    · cases h; show (r == _) = false; simp; omega
    · cases h
  · split at h
    · cases h; show decide (r ≤ _) = false; simp; omega
    · split at h
      · cases h; show decide (r ≤ _) = true; simp; omega
      · cases h
  · split at h
    · cases h; show decide (r ≥ _) = false; simp; omega
    · split at h
      · cases h; show decide (r ≥ _) = true; simp; omega
      · cases h
  · split at h
    · cases h; show decide (r > _) = false; simp; omega
    · split at h
      · cases h; show decide (r > _) = true; simp; omega
      · cases h
  · cases h
def hGen : List (DS Ab Ef) := List.replicate 19 (.leaf ⟨.normal, [], []⟩) ++ [.br (.has 65536) (.leaf ⟨.normal, [], [Ef.rn RE.r]⟩) (.leaf ⟨.normal, [], [Ef.rn RE.r]⟩)]
set_option maxRecDepth 100000 in
theorem gen1 : h0.map (norm (knI 128 8218)) = hGen := by kernel_rfl
set_option maxRecDepth 100000 in
theorem gen2 : h0.map (norm (knI 8220 9215)) = hGen := by kernel_rfl
set_option maxRecDepth 100000 in
theorem gen3 : h0.map (norm (knI 9250 65280)) = hGen := by kernel_rfl
set_option maxRecDepth 100000 in
theorem gen4 : h0.map (norm (knI 65375 1114111)) = hGen := by kernel_rfl
theorem gen_form (r : Int) : formG r hGen = some ([], [r]) := by
  simp [formG, hGen, outI, List.replicate, RE.int]
theorem gen_of {lo hi : Int} (m r : Int) (h1 : lo ≤ r) (h2 : r ≤ hi) (h : h0.map (norm (knI lo hi)) = hGen) : genO m r = Lib.encodeRune r := by
  have := formG_run m r _ _ (gen_form r)
  rw [← h, norm_list (Bmr m r) _ (knI_ok m r h1 h2) h0] at this
  unfold genO
  rw [this]
  simp [pick]
theorem mem_specials {r : Nat} : r ∈ specials ↔ r < 128 ∨ r = 8219 ∨ (9216 ≤ r ∧ r ≤ 9249) ∨ (65281 ≤ r ∧ r ≤ 65374) := by
  unfold specials
  simp only [List.mem_append, List.mem_range, List.mem_cons, List.not_mem_nil, or_false, List.mem_map]
  constructor
  · rintro (((h | h) | ⟨a, h1, h2⟩) | ⟨a, h1, h2⟩)
    · exact .inl h
    · exact .inr (.inl h)
    · exact .inr (.inr (.inl (by omega)))
    · exact .inr (.inr (.inr (by omega)))
  · rintro (h | h | h | h)
    · exact .inl (.inl (.inl h))
    · exact .inl (.inl (.inr h))
    · exact .inl (.inr ⟨r - 9216, by omega, by omega⟩)
    · exact .inr ⟨r - 65281, by omega, by omega⟩
theorem pick_const (m : Int) (o o' : List Int) : ∀ l : List Int, pick m (l.map fun b => (b, o)) o' = if l.any (hasB m) = true then o else o'
  | [] => by simp [pick]
  | b :: l => by
    rw [List.map_cons, List.any_cons]
    unfold pick
    rw [pick_const m o o' l]
    cases hasB m b <;> simp
/-- What is written for a rune that is no error: as the plain words say. -/
theorem genO_betw (m : Int) (r : Nat) (h : r ≤ 1114111) : genO m (r : Int) = flat (betw (tkm m) (.g r)) := by
  have flat1 : ∀ a : Nat, flat [.g a] = Lib.encodeRune (a : Int) := fun a => by show Lib.encodeRune _ ++ [] = _; simp
  have flat2 : ∀ a b : Nat, flat [.g a, .g b] = Lib.encodeRune (a : Int) ++ Lib.encodeRune (b : Int) := fun a b => by show Lib.encodeRune _ ++ (Lib.encodeRune _ ++ []) = _; simp
  by_cases hs : r ∈ specials
  · have hf := of_decide_eq_true (List.all_eq_true.1 specials_ok r hs)
    have hr := formG_run m (r : Int) _ _ hf
    rw [norm_list (Bmr m (r : Int)) (knR (r : Int)) (knR_ok m (r : Int)) h0] at hr
    unfold genO
    rw [hr]
    unfold specF
    rw [Pt.betw_g, Pt.signed_g]
    have ht : ∀ c, (tkm m).t c = (Nat.beq c 0 || (bitsOf c).any (hasB m)) := fun _ => rfl
    by_cases h0 : r = 0
    · subst h0
      rw [if_pos rfl]
      exact (flat1 9216).symm
    · rw [if_neg h0]
      by_cases h1 : r = 9216 ∨ r = 8219
      · rw [if_pos h1]
        rcases h1 with rfl | rfl
        · exact (flat2 8219 9216).symm
        · exact (flat2 8219 8219).symm
      · rw [if_neg h1, if_neg (show ¬ r = 8219 by omega), ht]
        have hb0 : Nat.beq r 0 = false := by
          cases hb : Nat.beq r 0 with
          | false => rfl
          | true => exact absurd (by simpa using hb) h0
        rw [hb0, Bool.false_or]
        by_cases h2 : r < 128
        · rw [if_pos h2, pick_const, Pt.sof_none (by omega)]
          cases (bitsOf r).any (hasB m) with
          | true => simp [flat1]
          | false => simp [flat1]
        · rw [if_neg h2, bitsOf_big (by omega)]
          cases hsf : sof r with
          | none => simp [flat1, pick]
          | some c =>
            have hc := Pt.sof_some hsf
            have hc0 : Nat.beq c 0 = false := by
              cases hb : Nat.beq c 0 with
              | false => rfl
              | true =>
                have e : c = 0 := by simpa using hb
                have := hc.1
                rw [e] at this
                exact absurd (show r = 9216 from this.symm) (by omega)
            dsimp only
            rw [pick_const, ht, hc0, Bool.false_or]
            cases (bitsOf c).any (hasB m) with
            | true => simp [flat2]
            | false => simp [flat1]
  · have hb : betw (tkm m) (.g r) = [.g r] := by
      rw [mem_specials] at hs
      have ht : (tkm m).t r = false := by
        cases h2 : (tkm m).t r with
        | false => rfl
        | true => exact absurd ((tkm_ok m).t r h2) (by omega)
      rw [Pt.betw_g, if_neg (by omega), Pt.signed_g, ht]
      have hn : sof r = none := by
        unfold sof
        rw [if_neg (by omega), if_neg (by omega), if_neg (by omega)]
      rw [hn]
      rfl
    rw [hb, flat1]
    rw [mem_specials] at hs
    rcases (show (128 ≤ r ∧ r ≤ 8218) ∨ (8220 ≤ r ∧ r ≤ 9215) ∨ (9250 ≤ r ∧ r ≤ 65280) ∨ (65375 ≤ r ∧ r ≤ 1114111) by omega) with h1 | h1 | h1 | h1
    · exact gen_of m r (by omega) (by omega) gen1
    · exact gen_of m r (by omega) (by omega) gen2
    · exact gen_of m r (by omega) (by omega) gen3
    · exact gen_of m r (by omega) (by omega) gen4
/-! the closure: what it lets pass is written as it is -/
def formK : List (DS At RE) → Option (Bool × List Int)
  | [] => some (false, [])
  | .leaf ⟨.normal, _, _⟩ :: l => formK l
  | .leaf ⟨.ret, _, _⟩ :: _ => some (true, [])
  | .br (.has b) (.leaf ⟨.ret, _, _⟩) (.leaf ⟨.normal, _, _⟩) :: l => (formK l).map fun p => (p.1, b :: p.2)
  | _ => none
theorem formK_run (m r : Int) : ∀ (ds : List (DS At RE)) (p : Bool × List Int), formK ds = some p → ds.any (fun d => isRet (d.run (cxC ⟨0, 0, none⟩ m r).B)) = (p.2.any (hasB m) || p.1) := by
  intro ds
  induction ds with
  | nil => intro p h; cases h; rfl
  | cons d ds ih =>
    intro p h
    unfold formK at h
    split at h
    · rename_i heq; cases heq
    · rename_i heq
      cases heq
      rw [List.any_cons, ih p h]
      rfl
    · rename_i heq
      cases heq
      cases h
      rfl
    · rename_i heq
      cases heq
      obtain ⟨l', h1, rfl⟩ := Option.map_eq_some_iff.1 h
      rw [List.any_cons, ih l' h1, List.any_cons, Bool.or_assoc]
      congr 1
      simp only [DS.run, cxC, Cx.B]
      cases hasB m _ <;> rfl
    · cases h
def specK (r : Nat) : Bool × List Int :=
  if r = 0 ∨ r = 9216 ∨ r = 8219 ∨ r = 65533 then (true, [])
  else if r < 128 then (false, bitsOf r)
  else match sof r with
    | some c => (false, bitsOf c)
    | none => (false, [])
set_option maxRecDepth 100000 in
theorem specialsK_ok : ((specials ++ [65533]).all fun (r : Nat) => decide (formK (d60.map (norm (knA (r : Int)))) = some (specK r))) = true := by kernel_rfl
theorem hit_is {m : Int} {r : Nat} (h : r ∈ specials ++ [65533]) : hit60 m (r : Int) = ((specK r).2.any (hasB m) || (specK r).1) := by
  have hf := of_decide_eq_true (List.all_eq_true.1 specialsK_ok r h)
  rw [← formK_run m (r : Int) _ _ hf]
  unfold hit60
  rw [List.any_map]
  have hk : ∀ t v, knA (r : Int) t = some v → (cxC ⟨0, 0, none⟩ m (r : Int)).B t = v := by
    intro t v h
    cases t <;> simp [knA] at h
    subst h
    rfl
  have key : ∀ ds : List (DS At RE), ds.all okHit = true → ds.any (DS.isT (cxC ⟨0, 0, none⟩ m (r : Int)).B) = ds.any ((fun d => isRet (d.run (cxC ⟨0, 0, none⟩ m (r : Int)).B)) ∘ norm (knA (r : Int))) := by
    intro ds
    induction ds with
    | nil => intro _; rfl
    | cons d ds ih =>
      intro h
      rw [List.all_cons, Bool.and_eq_true] at h
      rw [List.any_cons, List.any_cons, ih h.2, isT_ret _ d h.1]
      congr 1
      show _ = isRet ((norm (knA (r : Int)) d).run _)
      rw [norm_run _ d _ hk]
  exact key d60 d60_ok
theorem hit_not {m : Int} {r : Nat} (h : hit60 m (r : Int) = false) : r ≠ 65533 ∧ betw (tkm m) (.g r) = [.g r] := by
  by_cases hs : r ∈ specials ++ [65533]
  · rw [hit_is hs] at h
    unfold specK at h
    have h0 : ¬ (r = 0 ∨ r = 9216 ∨ r = 8219 ∨ r = 65533) := by
      intro e
      rw [if_pos e] at h
      cases h
    rw [if_neg h0] at h
    refine ⟨fun e => h0 (.inr (.inr (.inr e))), ?_⟩
    have ht : ∀ c, (tkm m).t c = (Nat.beq c 0 || (bitsOf c).any (hasB m)) := fun _ => rfl
    have hb0 : ∀ c : Nat, c ≠ 0 → Nat.beq c 0 = false := by
      intro c hc
      cases hb : Nat.beq c 0 with
      | false => rfl
      | true => exact absurd (by simpa using hb) hc
    rw [Pt.betw_g, if_neg (by omega), Pt.signed_g, ht, hb0 r (by omega), Bool.false_or]
    by_cases h2 : r < 128
    · rw [if_pos h2] at h
      simp only [Bool.or_false] at h
      rw [h, Pt.sof_none (by omega)]
      rfl
    · rw [if_neg h2] at h
      rw [bitsOf_big (by omega)]
      cases hsf : sof r with
      | none => rfl
      | some c =>
        rw [hsf] at h
        simp only [Bool.or_false] at h
        have hc := Pt.sof_some hsf
        have hcn : c ≠ 0 := by
          intro e
          have := hc.1
          rw [e] at this
          exact absurd (show r = 9216 from this.symm) (by omega)
        dsimp only
        rw [ht, hb0 c hcn, Bool.false_or, h]
        rfl
  · simp only [List.mem_append, mem_specials, List.mem_cons, List.not_mem_nil, or_false] at hs
    refine ⟨by omega, ?_⟩
    have ht : (tkm m).t r = false := by
      cases h2 : (tkm m).t r with
      | false => rfl
      | true => exact absurd ((tkm_ok m).t r h2) (by omega)
    rw [Pt.betw_g, if_neg (by omega), Pt.signed_g, ht]
    have hn : sof r = none := by
      unfold sof
      rw [if_neg (by omega), if_neg (by omega), if_neg (by omega)]
    rw [hn]
    rfl
end Go.Proofs.YtonmnpmklkbioaaDoor.Sy
/- What Encode gives is what the plain words say of the name's characters. -/
namespace Go.Proofs.YtonmnpmklkbioaaDoor.Sy
open Go.RowKit Go.Proofs.YtonmnpmklkbioaaDoorW.PrintWords
open Go.Proofs.YtonmnpmklkbioaaDoor.Pt (Ch Tk flat chars chs isBad sgn sof signed betw leftC rightC encC dotC hexc isC run Pr hd qt)
set_option linter.unusedVariables false
set_option linter.unusedSimpArgs false
/-- A name's bytes. -/
abbrev tl (S : ByteArray) : List UInt8 := S.data.toList
theorem tl_size (S : ByteArray) : (tl S).length = S.size := Array.length_toList
theorem drop_ne {S : ByteArray} {p : Nat} (h : p < S.size) : (tl S).drop p ≠ [] := by
  intro e
  have := congrArg List.length e
  rw [List.length_drop, tl_size] at this
  simp at this
  omega
theorem getD_tl {S : ByteArray} {p : Nat} (h : p < S.size) : ((tl S).drop p).getD 0 0 = S.get! p := by
  rw [Lib.getD_dropU, Nat.add_zero, Lib.getD_get!']
theorem hexs_is : ∀ n : Fin 16, (nib n.val).data.toList = Lib.encodeRune ((hexc n.val : Nat) : Int) := by decide
theorem quote_is (x : UInt8) : (quoteByte x).data.toList = flat [qt, .g (hexc (x.toNat / 16)), .g (hexc (x.toNat % 16))] := by
  have hx := x.toNat_lt
  have h1 := hexs_is ⟨x.toNat / 16, by omega⟩
  have h2 := hexs_is ⟨x.toNat % 16, by omega⟩
  unfold quoteByte
  rw [ByteArray.data_append, ByteArray.data_append, Array.toList_append, Array.toList_append, h1, h2]
  have h3 : quoteB.data.toList = Lib.encodeRune 8219 := by decide
  rw [h3]
  show _ = Lib.encodeRune _ ++ (Lib.encodeRune _ ++ (Lib.encodeRune _ ++ []))
  rw [List.append_nil, List.append_assoc]
  rfl
theorem unit_is (m : Int) {S : ByteArray} {p : Nat} (h : p < S.size) : unitO m S p = flat (betw (tkm m) (hd ((tl S).drop p))) := by
  have hdec := Lib.decodeL_drop S p
  have hne := drop_ne h
  have hle := Lib.rune_le S p
  unfold unitO
  by_cases hr : (Utf8.decode S p).1 = 65533
  · rw [hr]
    simp only [Nat.beq_refl, cond_true]
    by_cases hw : (Utf8.decode S p).2 = 1
    · have hb : isBad ((tl S).drop p) := by unfold isBad; rw [hdec]; exact ⟨hr, hw⟩
      have e : hd ((tl S).drop p) = .b (S.get! p) := by unfold hd; rw [if_pos hb, getD_tl h]
      rw [e, hw]
      simp only [Nat.beq_refl, cond_true]
      rw [Pt.betw_b]
      show (bif hasB m 16777216 then _ else _) = flat (if hasB m 16777216 = true then _ else _)
      cases hasB m 16777216 with
      | true => exact quote_is _
      | false => rfl
    · have hb : ¬ isBad ((tl S).drop p) := by unfold isBad; rw [hdec]; exact fun e => hw e.2
      have e : hd ((tl S).drop p) = .g 65533 := by unfold hd; rw [if_neg hb, hdec, hr]
      have hby := Pt.hd_by hne
      rw [e, hdec] at hby
      have h3 := dec_err h hr
      have hw3 := (h3.resolve_left hw).1
      have hn : Nat.beq (Utf8.decode S p).2 1 = false := by rw [hw3]; rfl
      rw [e, hn, cond_false]
      have hb2 : flat (betw (tkm m) (.g 65533)) = Lib.encodeRune 65533 := by
        have ht : (tkm m).t 65533 = false := by
          cases h2 : (tkm m).t 65533 with
          | false => rfl
          | true => exact absurd ((tkm_ok m).t _ h2) (by decide)
        rw [Pt.betw_g, if_neg (by decide), Pt.signed_g, ht]
        show flat [.g 65533] = _
        show Lib.encodeRune _ ++ [] = _
        rw [List.append_nil]
        rfl
      rw [hb2]
      cases hasB m 16777216 with
      | true => rfl
      | false =>
        rw [cond_false]
        show (S.extract p (p + (Utf8.decode S p).2)).data.toList = Ch.by (.g 65533)
        rw [hby, ByteArray.data_extract, Array.toList_extract, List.extract_eq_take_drop]
        rw [show p + (Utf8.decode S p).2 - p = (Utf8.decode S p).2 by omega]
  · have hn : Nat.beq (Utf8.decode S p).1 65533 = false := by
      cases hb : Nat.beq (Utf8.decode S p).1 65533 with
      | false => rfl
      | true => exact absurd (by simpa using hb) hr
    have hb : ¬ isBad ((tl S).drop p) := by unfold isBad; rw [hdec]; exact fun e => hr e.1
    have e : hd ((tl S).drop p) = .g (Utf8.decode S p).1 := by unfold hd; rw [if_neg hb, hdec]
    rw [e, hn, cond_false, genO_betw m _ hle]
theorem drop_next (S : ByteArray) (p : Nat) : ((tl S).drop p).drop (Utf8.decode S p).2 = (tl S).drop (p + (Utf8.decode S p).2) := by rw [List.drop_drop]
theorem chars_at {S : ByteArray} {p : Nat} (h : p < S.size) : chars ((tl S).drop p) = hd ((tl S).drop p) :: chars ((tl S).drop (p + (Utf8.decode S p).2)) := by
  rw [Pt.chars_cons (drop_ne h), Lib.decodeL_drop, drop_next]
theorem flat_flatMap_cons (f : Ch → List Ch) (c : Ch) (L : List Ch) : flat ((c :: L).flatMap f) = flat (f c) ++ flat (L.flatMap f) := by
  rw [List.flatMap_cons, Pt.flat_append]
theorem drop_end {S : ByteArray} {p : Nat} (h : ¬ p < S.size) : (tl S).drop p = [] := List.drop_eq_nil_of_le (by rw [tl_size]; omega)
theorem loop_is (m : Int) (S : ByteArray) : ∀ f p, S.size ≤ p + f → loopO m S f p = flat ((chars ((tl S).drop p)).flatMap (betw (tkm m)))
  | 0, p, h => by
    rw [drop_end (by omega)]
    rfl
  | f + 1, p, h => by
    by_cases hp : p < S.size
    · have e1 : loopO m S (f + 1) p = unitO m S p ++ loopO m S f (p + (Utf8.decode S p).2) := by simp only [loopO, if_pos hp]
      have hw := Lib.width_pos S p
      rw [e1, unit_is m hp, loop_is m S f _ (by omega), chars_at hp, flat_flatMap_cons]
    · have e1 : loopO m S (f + 1) p = [] := by simp only [loopO, if_neg hp]
      rw [e1, drop_end hp]
      rfl
/-- What the closure lets pass stays. -/
theorem pass_hd {m : Int} {S : ByteArray} {p : Nat} (h : p < S.size) (hh : hitG 60 m (Utf8.decode S p).1 = false) : flat (betw (tkm m) (hd ((tl S).drop p))) = ((tl S).drop p).take (Utf8.decode S p).2 := by
  have h2 := hit_not (m := m) (r := (Utf8.decode S p).1) hh
  have hdec := Lib.decodeL_drop S p
  have hb : ¬ isBad ((tl S).drop p) := by unfold isBad; rw [hdec]; exact fun e => h2.1 e.1
  have e : hd ((tl S).drop p) = .g (Utf8.decode S p).1 := by unfold hd; rw [if_neg hb, hdec]
  have hby := Pt.hd_by (drop_ne h)
  rw [e, hdec] at hby
  rw [e, h2.2, ← hby]
  show Ch.by _ ++ [] = _
  rw [List.append_nil]
theorem idx_is (m : Int) (S : ByteArray) : ∀ f p, S.size ≤ p + f →
    (Lib.idxFuncFrom (hitG 60 m) true S f p = -1 ∧ flat ((chars ((tl S).drop p)).flatMap (betw (tkm m))) = (tl S).drop p) ∨
    ∃ q : Nat, Lib.idxFuncFrom (hitG 60 m) true S f p = q ∧ p ≤ q ∧ q < S.size ∧ flat ((chars ((tl S).drop p)).flatMap (betw (tkm m))) = ((tl S).drop p).take (q - p) ++ flat ((chars ((tl S).drop q)).flatMap (betw (tkm m)))
  | 0, p, h => by
    refine .inl ⟨rfl, ?_⟩
    rw [drop_end (by omega)]
    rfl
  | f + 1, p, h => by
    by_cases hp : p < S.size
    · have hw := Lib.width_pos S p
      cases hh : hitG 60 m (Utf8.decode S p).1 with
      | true =>
        refine .inr ⟨p, ?_, Nat.le_refl _, hp, ?_⟩
        · simp only [Lib.idxFuncFrom, if_pos hp, hh, if_true]
        · rw [Nat.sub_self, List.take_zero, List.nil_append]
      | false =>
        have e : Lib.idxFuncFrom (hitG 60 m) true S (f + 1) p = Lib.idxFuncFrom (hitG 60 m) true S f (p + (Utf8.decode S p).2) := by
          simp only [Lib.idxFuncFrom, if_pos hp, hh, Bool.false_eq_true, if_false]
        have hph := pass_hd hp hh
        rw [e, chars_at hp, flat_flatMap_cons, hph]
        rcases idx_is m S f (p + (Utf8.decode S p).2) (by omega) with ⟨h1, h2⟩ | ⟨q, h1, h2, h3, h4⟩
        · refine .inl ⟨h1, ?_⟩
          rw [h2, ← drop_next, List.take_append_drop]
        · refine .inr ⟨q, h1, by omega, h3, ?_⟩
          rw [h4, ← List.append_assoc]
          congr 1
          rw [← drop_next, show q - p = (Utf8.decode S p).2 + (q - (p + (Utf8.decode S p).2)) by omega, List.take_add]
    · refine .inl ⟨?_, ?_⟩
      · simp only [Lib.idxFuncFrom, if_neg hp]
      · rw [drop_end hp]; rfl
/-! the ends -/
/-- What a character is to the bits of an end: the character of ASCII that they take, and what is written. -/
def key : Ch → Option (Nat × List Ch)
  | .b _ => none
  | .g r => if r < 128 then some (r, [.g (sgn r)]) else (sof r).map fun a => (a, [qt, .g r])
theorem signed_key {P : Nat → Bool} (hP : ∀ c, P c = true → c < 128) (c : Ch) : signed P c = match key c with
    | none => none
    | some (a, t) => if P a then some t else none := by
  cases c with
  | b x => rfl
  | g r =>
    show signed P (.g r) = match (if r < 128 then some (r, [Ch.g (sgn r)]) else (sof r).map fun a => (a, [qt, Ch.g r])) with
      | none => none
      | some (a, t) => if P a then some t else none
    rw [Pt.signed_g]
    by_cases h : r < 128
    · rw [if_pos h, Pt.sof_none (by omega)]
    · rw [if_neg h]
      have hn : P r = false := by
        cases hp : P r with
        | false => rfl
        | true => exact absurd (hP r hp) h
      rw [hn]
      cases hs : sof r with
      | none => rfl
      | some a => rfl
theorem strB_tl (S : ByteArray) : strB (tl S) = S := by cases S; simp [strB, tl]
theorem tl_strB (l : List UInt8) : tl (strB l) = l := by simp [strB, tl]
theorem signI_sgn {a : Int} {r : Nat} (h : a = (r : Int)) : signI a = (sgn r : Int) := by
  subst h
  unfold signI sgn
  by_cases h1 : r ≤ 32
  · rw [if_pos (by omega), if_pos h1]; omega
  · rw [if_neg (by omega), if_neg h1]
    by_cases h2 : r = 127
    · rw [if_pos (by omega), if_pos h2]; rfl
    · rw [if_neg (by omega), if_neg h2]; omega
theorem extract_drop (S : ByteArray) (p : Nat) : S.extract p S.size = strB ((tl S).drop p) := by
  rw [← strB_tl (S.extract p S.size)]
  congr 1
  show (S.extract p S.size).data.toList = _
  rw [ByteArray.data_extract, Array.toList_extract, List.extract_eq_take_drop, List.take_of_length_le]
  have := tl_size S
  rw [List.length_drop]
  unfold tl at this
  omega
theorem extract_take (S : ByteArray) (p : Nat) : S.extract 0 p = strB ((tl S).take p) := by
  rw [← strB_tl (S.extract 0 p)]
  congr 1
  show (S.extract 0 p).data.toList = _
  rw [ByteArray.data_extract, Array.toList_extract, List.extract_eq_take_drop, List.drop_zero, Nat.sub_zero]
theorem contains_sign {cs : List Int} (hcs : ∀ a ∈ cs, 1 ≤ a ∧ a < 128) (r : Nat) : (cs.map signI).contains (r : Int) = match sof r with
    | some a => cs.contains (a : Int)
    | none => false := by
  cases hs : sof r with
  | none =>
    dsimp only
    rw [Bool.eq_false_iff]
    intro h
    rw [List.contains_iff_mem, List.mem_map] at h
    obtain ⟨a, ha, h2⟩ := h
    have hb := hcs a ha
    obtain ⟨n, rfl⟩ : ∃ n : Nat, a = n := ⟨a.toNat, by omega⟩
    rw [signI_sgn rfl] at h2
    have h3 : sgn n = r := by omega
    have h4 := Pt.sof_sgn (c := n) (by omega)
    rw [h3, hs] at h4
    cases h4
  | some c =>
    dsimp only
    have h1 := Pt.sof_some hs
    cases hc : cs.contains (c : Int) with
    | true =>
      rw [List.contains_iff_mem, List.mem_map]
      rw [List.contains_iff_mem] at hc
      exact ⟨_, hc, by rw [signI_sgn rfl, h1.1]⟩
    | false =>
      rw [Bool.eq_false_iff]
      intro h
      rw [List.contains_iff_mem, List.mem_map] at h
      obtain ⟨a, ha, h2⟩ := h
      have hb := hcs a ha
      obtain ⟨n, rfl⟩ : ∃ n : Nat, a = n := ⟨a.toNat, by omega⟩
      rw [signI_sgn rfl] at h2
      have h3 : sgn n = r := by omega
      have h4 := Pt.sof_sgn (c := n) (by omega)
      rw [h3, hs] at h4
      have h5 : c = n := Option.some.inj h4
      rw [h5, List.contains_iff_mem.2 ha] at hc
      cases hc
/-- One bit at an end, by the end's character. -/
theorem stg_key {m bit : Int} {cs : List Int} (hcs : ∀ a ∈ cs, 1 ≤ a ∧ a < 128) {e : En} {c : Ch} {R : List Ch}
    (hg : ∀ r, c = .g r → Pt.Good r) (hb : e.b = ((c.by.getD 0 0).toNat : Int) ∨ (e.b = ((c.by.getD (c.by.length - 1) 0).toNat : Int))) (hbb : ∀ x, c = .b x → 128 ≤ x.toNat) (hr : e.r = (c.rn : Int)) (hcut : c.by.length = 1 → e.cut = strB (flat R)) (hdcut : e.dcut = strB (flat R)) :
    stg m bit cs e = match key c with
      | none => none
      | some (a, t) => if (hasB m bit && cs.contains (a : Int)) = true then some (strB (flat R), strB (flat t)) else none := by
  have hbig : ∀ x : Nat, 128 ≤ x → cs.contains (x : Int) = false := by
    intro x hx
    rw [Bool.eq_false_iff]
    intro h
    have := hcs _ (List.contains_iff_mem.1 h)
    omega
  unfold stg
  cases c with
  | b x =>
    have hx := hbb x rfl
    have hbx : e.b = (x.toNat : Int) := by rcases hb with h | h <;> exact h
    have h3 : e.r = ((65533 : Nat) : Int) := hr
    rw [hbx, hbig _ hx, h3, contains_sign hcs]
    cases hasB m bit <;> rfl
  | g r =>
    have hgr := hg r rfl
    have h3 : e.r = (r : Int) := hr
    show _ = match (if r < 128 then some (r, [Ch.g (sgn r)]) else (sof r).map fun a => (a, [qt, Ch.g r])) with
      | none => none
      | some (a, t) => if (hasB m bit && cs.contains (a : Int)) = true then some (strB (flat R), strB (flat t)) else none
    rcases Pt.good_small hgr with ⟨h1, h2, h4⟩ | ⟨h1, h2, h4, h5, h6⟩
    · have hby : (Ch.g r).by = [UInt8.ofNat r] := h4
      have hn : (UInt8.ofNat r).toNat = r := by simp; omega
      have hbr : e.b = (r : Int) := by
        rw [hby] at hb
        rcases hb with h | h
        · rw [h]; show (((UInt8.ofNat r).toNat : Nat) : Int) = _; rw [hn]
        · rw [h]; show (((UInt8.ofNat r).toNat : Nat) : Int) = _; rw [hn]
      have hcut' := hcut (by rw [hby]; rfl)
      rw [if_pos h2, hbr, h3, contains_sign hcs, Pt.sof_none (by omega), hcut']
      dsimp only
      cases hasB m bit with
      | false => rfl
      | true =>
        cases cs.contains (r : Int) with
        | false => rfl
        | true =>
          rw [signI_sgn rfl]
          show some (strB (flat R), strB (Lib.encodeRune _)) = some (strB (flat R), strB (Lib.encodeRune _ ++ []))
          rw [List.append_nil]
    · rw [if_neg (by omega)]
      have hbr : cs.contains e.b = false := by
        rcases hb with h | h
        · rw [h]; exact hbig _ h5
        · rw [h]
          refine hbig _ ?_
          have hc := Pt.tail_conts hgr
          have : isC ((Ch.g r).by.getD ((Ch.g r).by.length - 1) 0) = true := by
            show isC ((Lib.encodeRune (r : Int)).getD ((Lib.encodeRune (r : Int)).length - 1) 0) = true
            apply hc
            have e1 : (Lib.encodeRune (r : Int)).getD ((Lib.encodeRune (r : Int)).length - 1) 0 = (Lib.encodeRune (r : Int))[(Lib.encodeRune (r : Int)).length - 1] := by
              rw [List.getD_eq_getElem?_getD, List.getElem?_eq_getElem (by omega)]
              rfl
            rw [e1]
            have h7 : ((Lib.encodeRune (r : Int)).drop 1)[(Lib.encodeRune (r : Int)).length - 2]? = some (Lib.encodeRune (r : Int))[(Lib.encodeRune (r : Int)).length - 1] := by
              rw [List.getElem?_drop, show 1 + ((Lib.encodeRune (r : Int)).length - 2) = (Lib.encodeRune (r : Int)).length - 1 by omega]
              exact List.getElem?_eq_getElem (by omega)
            exact List.mem_of_getElem? h7
          simp only [isC, beq_iff_eq] at this
          omega
      rw [hbr, h3, contains_sign hcs, hdcut]
      cases hs : sof r with
      | none => cases hasB m bit <;> rfl
      | some a =>
        cases hasB m bit with
        | false => rfl
        | true =>
          dsimp only [Option.map]
          cases cs.contains (a : Int) with
          | false => rfl
          | true =>
            show some (strB (flat R), strB (quoteL ++ Lib.encodeRune _)) = some (strB (flat R), strB (Lib.encodeRune _ ++ (Lib.encodeRune _ ++ [])))
            rw [List.append_nil]
            rfl
theorem bt_get (s : ByteArray) (i : Nat) (h : i < s.size) : bt s (i : Int) = ((s.get! i).toNat : Int) := by
  rw [get_eq h]
  unfold bt
  simp [h]
  rfl
theorem decodeGo_tl {S : ByteArray} (h : tl S ≠ []) : Lib.decodeGo S = Lib.decodeL (tl S) := by
  have hs : S.size ≠ 0 := by
    intro e
    rw [← tl_size] at e
    exact h (List.length_eq_zero_iff.1 e)
  unfold Lib.decodeGo
  rw [if_neg hs, ← Lib.decodeL_drop, List.drop_zero]
theorem stgL {m bit : Int} {cs : List Int} (hcs : ∀ a ∈ cs, 1 ≤ a ∧ a < 128) {S : ByteArray} {c : Ch} {R : List Ch} (hp : Pr (c :: R)) (hS : tl S = flat (c :: R)) :
    stg m bit cs (enL S) = match key c with
      | none => none
      | some (a, t) => if (hasB m bit && cs.contains (a : Int)) = true then some (strB (flat R), strB (flat t)) else none := by
  have hf := Pt.first_of hp
  rw [← hS] at hf
  have hcl : 1 ≤ c.by.length := by
    cases c with
    | b x => exact Nat.le_refl _
    | g r => exact rune_pos _
  have hne : tl S ≠ [] := by
    intro e
    rw [hS, Pt.flat_cons] at e
    have := (List.append_eq_nil_iff.1 e).1
    rw [this] at hcl
    simp at hcl
  have hgo := decodeGo_tl hne
  rw [hf] at hgo
  have hsz : S.size = c.by.length + (flat R).length := by rw [← tl_size, hS, Pt.flat_cons, List.length_append]
  have hdr : (tl S).drop c.by.length = flat R := by rw [hS, Pt.flat_cons, List.drop_left]
  refine stg_key hcs (fun r e => ?_) (.inl ?_) (fun x e => ?_) ?_ (fun h1 => ?_) ?_
  · subst e; exact hp.1
  · show bt S 0 = _
    have h0 : 0 < S.size := by omega
    have := bt_get S 0 h0
    have e0 : bt S 0 = ((S.get! 0).toNat : Int) := this
    rw [e0, ← getD_tl h0, List.drop_zero, hS, Pt.flat_cons]
    congr 2
    cases hb : c.by with
    | nil => rw [hb] at hcl; simp at hcl
    | cons y l => rfl
  · subst e
    exact Pt.bad_big hp.1
  · show ((Lib.decodeGo S).1 : Int) = _
    rw [hgo]
  · show S.extract 1 S.size = _
    rw [extract_drop, ← h1, hdr]
  · show S.extract (Lib.decodeGo S).2 S.size = _
    rw [hgo, extract_drop, hdr]
theorem stgR {m bit : Int} {cs : List Int} (hcs : ∀ a ∈ cs, 1 ≤ a ∧ a < 128) {S : ByteArray} {c : Ch} {R : List Ch} (hp : Pr (R ++ [c])) (hS : tl S = flat (R ++ [c])) :
    stg m bit cs (enR S) = match key c with
      | none => none
      | some (a, t) => if (hasB m bit && cs.contains (a : Int)) = true then some (strB (flat R), strB (flat t)) else none := by
  have hf := Pt.last_of hp
  rw [← hS] at hf
  have hpc := Pt.pr_right hp
  have hcl : 1 ≤ c.by.length := by
    cases c with
    | b x => exact Nat.le_refl _
    | g r => exact rune_pos _
  have hfl : flat (R ++ [c]) = flat R ++ c.by := by rw [Pt.flat_append, Pt.flat_cons, Pt.flat_nil, List.append_nil]
  have hsz : S.size = (flat R).length + c.by.length := by rw [← tl_size, hS, hfl, List.length_append]
  refine stg_key hcs (fun r e => ?_) (.inr ?_) (fun x e => ?_) ?_ (fun h1 => ?_) ?_
  · subst e; exact hpc.1
  · show bt S ((S.size : Int) - 1) = _
    have h0 : S.size - 1 < S.size := by omega
    have e0 : bt S ((S.size : Int) - 1) = ((S.get! (S.size - 1)).toNat : Int) := by
      rw [show (S.size : Int) - 1 = ((S.size - 1 : Nat) : Int) by omega]
      exact bt_get S _ h0
    rw [e0, ← Lib.getD_get!']
    congr 2
    show (tl S).getD (S.size - 1) 0 = _
    rw [← tl_size S, hS, hfl, Pt.getD_end _ _ 1 (Nat.le_refl _) hcl]
  · subst e
    exact Pt.bad_big hpc.1
  · show ((Lib.decodeLastL (tl S)).1 : Int) = _
    rw [hf]
  · show S.extract 0 (S.size - 1) = _
    rw [extract_take, hsz, ← h1, Nat.add_sub_cancel, hS, hfl, List.take_left]
  · show S.extract 0 (S.size - (Lib.decodeLastL (tl S)).2) = _
    rw [hf, extract_take, hsz, Nat.add_sub_cancel, hS, hfl, List.take_left]
theorem or_if {α : Type} (b1 b2 : Bool) (x : α) : orO (if b1 = true then some x else none) (if b2 = true then some x else none) = if (b1 || b2) = true then some x else none := by
  cases b1 <;> cases b2 <;> rfl
theorem c1 (c : Nat) (x : Nat) (X : Int) (h : X = (x : Int)) : List.contains [X] (c : Int) = Nat.beq c x := by
  subst h
  rw [Bool.eq_iff_iff, List.contains_iff_mem, List.mem_singleton, Nat.beq_eq]
  exact ⟨fun h => by omega, fun h => by omega⟩
theorem c4 (c : Nat) : List.contains [(9 : Int), 10, 11, 13] (c : Int) = (Nat.beq c 9 || Nat.beq c 10 || Nat.beq c 11 || Nat.beq c 13) := by
  rw [Bool.eq_iff_iff, List.contains_iff_mem]
  simp only [List.mem_cons, List.not_mem_nil, or_false, Bool.or_eq_true, Nat.beq_eq]
  omega
theorem leftO_is (m : Int) {S : ByteArray} {c : Ch} {R : List Ch} (hp : Pr (c :: R)) (hS : tl S = flat (c :: R)) :
    leftO m S = (strB (flat (leftC (tkm m) (c :: R)).2), strB (flat (leftC (tkm m) (c :: R)).1)) := by
  have e : leftC (tkm m) (c :: R) = match signed (tkm m).l c with
      | some t => (t, R)
      | none => ([], c :: R) := rfl
  unfold leftO
  rw [stgL (cs := [32]) (by decide) hp hS, stgL (cs := [46]) (by decide) hp hS, stgL (cs := [126]) (by decide) hp hS, stgL (cs := [9, 10, 11, 13]) (by decide) hp hS, e, signed_key (tkm_ok m).l]
  have hn : (S, noB) = (strB (flat (c :: R)), strB (flat [])) := by rw [← hS, strB_tl]; rfl
  cases key c with
  | none => exact hn
  | some p =>
    obtain ⟨a, t⟩ := p
    dsimp only
    rw [or_if, or_if, or_if, c1 a 32 32 rfl, c1 a 46 46 rfl, c1 a 126 126 rfl, c4]
    have hl : (tkm m).l a = (hasB m 131072 && Nat.beq a 32 || (hasB m 262144 && Nat.beq a 46 || (hasB m 524288 && Nat.beq a 126 || hasB m 1048576 && (Nat.beq a 9 || Nat.beq a 10 || Nat.beq a 11 || Nat.beq a 13)))) := by
      show ((Nat.beq a 32 && hasB m 131072) || (Nat.beq a 46 && hasB m 262144) || (Nat.beq a 126 && hasB m 524288) || ((Nat.beq a 9 || Nat.beq a 10 || Nat.beq a 11 || Nat.beq a 13) && hasB m 1048576)) = _
      simp only [Bool.and_comm, Bool.or_assoc]
    rw [hl]
    split
    · rfl
    · exact hn
theorem rightO_is (m : Int) {S : ByteArray} {L : List Ch} (hp : Pr L) (hS : tl S = flat L) :
    rightO m S = (strB (flat (rightC (tkm m) L).1), strB (flat (rightC (tkm m) L).2)) := by
  have hn : (S, noB) = (strB (flat L), strB (flat [])) := by rw [← hS, strB_tl]; rfl
  unfold rightO
  by_cases hL : L = []
  · subst hL
    have h0 : (S.toList == []) = true := by rw [tl_eq]; show (tl S == []) = true; rw [hS]; rfl
    rw [h0]
    exact hn
  · obtain ⟨R, c, rfl⟩ : ∃ M c, L = M ++ [c] := ⟨L.dropLast, L.getLast hL, (List.dropLast_concat_getLast hL).symm⟩
    have h0 : (S.toList == []) = false := by
      rw [tl_eq]
      show (tl S == []) = false
      rw [hS, Pt.flat_append]
      cases hf : flat R ++ flat [c] with
      | nil =>
        have := (List.append_eq_nil_iff.1 hf).2
        rw [Pt.flat_cons] at this
        have h2 := (List.append_eq_nil_iff.1 this).1
        cases c with
        | b x => cases h2
        | g r => exact absurd h2 (Pt.good_ne r)
      | cons y l => rfl
    rw [h0, cond_false, stgR (cs := [32]) (by decide) hp hS, stgR (cs := [46]) (by decide) hp hS, stgR (cs := [9, 10, 11, 13]) (by decide) hp hS]
    have e : rightC (tkm m) (R ++ [c]) = match signed (tkm m).r c with
      | some t => (R, t)
      | none => (R ++ [c], []) := by
      unfold rightC
      rw [List.getLast?_concat]
      dsimp only
      rw [List.dropLast_concat]
      try (cases signed (tkm m).r c <;> rfl)
    rw [e, signed_key (tkm_ok m).r]
    cases key c with
    | none => exact hn
    | some p =>
      obtain ⟨a, t⟩ := p
      dsimp only
      rw [or_if, or_if, c1 a 32 32 rfl, c1 a 46 46 rfl, c4]
      have hl : (tkm m).r a = (hasB m 2097152 && Nat.beq a 32 || (hasB m 4194304 && Nat.beq a 46 || hasB m 8388608 && (Nat.beq a 9 || Nat.beq a 10 || Nat.beq a 11 || Nat.beq a 13))) := by
        show ((Nat.beq a 32 && hasB m 2097152) || (Nat.beq a 46 && hasB m 4194304) || ((Nat.beq a 9 || Nat.beq a 10 || Nat.beq a 11 || Nat.beq a 13) && hasB m 8388608)) = _
        simp only [Bool.and_comm, Bool.or_assoc]
      rw [hl]
      split
      · rfl
      · exact hn
theorem chars_eq {l : List UInt8} {M : List Ch} (hM : Pr M) : (l == flat M) = decide (chars l = M) := by
  rw [Bool.eq_iff_iff, beq_iff_eq, decide_eq_true_eq]
  constructor
  · intro h; rw [h, Pt.chars_flat M hM]
  · intro h; rw [← h, Pt.flat_chars']
theorem good_of {r : Nat} (h : r < 55296 ∨ (57344 ≤ r ∧ r ≤ 1114111)) : Pt.Good r := h
theorem dotO_is (m : Int) (S : ByteArray) : dotO m S = (dotC (tkm m) (chars (tl S))).map fun t => strB (flat t) := by
  unfold dotO dotC
  have g1 : Pt.Good 46 := good_of (by omega)
  have g2 : Pt.Good 65294 := good_of (by omega)
  rw [show S.toList = tl S from tl_eq S]
  have e1 : (tl S == [46]) = decide (chars (tl S) = [.g 46]) := by
    rw [show ([46] : List UInt8) = flat [.g 46] by decide]; exact chars_eq ⟨g1, trivial⟩
  have e2 : (tl S == [46, 46]) = decide (chars (tl S) = [.g 46, .g 46]) := by
    rw [show ([46, 46] : List UInt8) = flat [.g 46, .g 46] by decide]; exact chars_eq ⟨g1, g1, trivial⟩
  have e3 : (tl S == [239, 188, 142]) = decide (chars (tl S) = [.g 65294]) := by
    rw [show ([239, 188, 142] : List UInt8) = flat [.g 65294] by decide]; exact chars_eq ⟨g2, trivial⟩
  have e4 : (tl S == [239, 188, 142, 239, 188, 142]) = decide (chars (tl S) = [.g 65294, .g 65294]) := by
    rw [show ([239, 188, 142, 239, 188, 142] : List UInt8) = flat [.g 65294, .g 65294] by decide]; exact chars_eq ⟨g2, g2, trivial⟩
  rw [e1, e2, e3, e4]
  show (bif hasB m 33554432 then _ else _) = (if hasB m 33554432 = true then _ else _ : Option (List Ch)).map _
  cases hasB m 33554432 with
  | false => rfl
  | true =>
    simp only [cond_true, if_true]
    by_cases h1 : chars (tl S) = [.g 46]
    · simp [h1]; decide
    · by_cases h2 : chars (tl S) = [.g 46, .g 46]
      · simp [h2]; decide
      · by_cases h3 : chars (tl S) = [.g 65294]
        · simp [h3]; decide
        · by_cases h4 : chars (tl S) = [.g 65294, .g 65294]
          · simp [h4]; decide
          · simp [h1, h2, h3, h4]
/-- ENCODE, IN PLAIN WORDS. -/
theorem enc_is (m : Int) (S : ByteArray) (hm : m ≠ 1) : tl (encO m S) = flat (encC (tkm m) (chars (tl S))) := by
  have hm1 : (m == 1) = false := by simpa using hm
  have hp := Pt.pr_chars (tl S)
  have hfl := Pt.flat_chars' (tl S)
  obtain ⟨L, hL⟩ : ∃ L, chars (tl S) = L := ⟨_, rfl⟩
  rw [hL] at hp hfl ⊢
  unfold encO frontO
  rw [hm1, cond_false]
  cases L with
  | nil =>
    have h0 : (S.toList == []) = true := by rw [tl_eq]; show (tl S == []) = true; rw [← hfl]; rfl
    rw [h0]
    have : dotC (tkm m) [] = none := by unfold dotC; split <;> rfl
    unfold encC
    rw [this]
    rfl
  | cons c R =>
    have h0 : (S.toList == []) = false := by
      rw [tl_eq]
      show (tl S == []) = false
      rw [← hfl, Pt.flat_cons]
      cases hf : c.by ++ flat R with
      | nil =>
        have h2 := (List.append_eq_nil_iff.1 hf).1
        cases c with
        | b x => cases h2
        | g r => exact absurd h2 (Pt.good_ne r)
      | cons y l => rfl
    rw [h0, cond_false, dotO_is, hL]
    unfold encC
    cases hd : dotC (tkm m) (c :: R) with
    | some t => exact tl_strB _
    | none =>
      dsimp only [Option.map]
      unfold endsO
      have h1 := leftO_is m hp hfl.symm
      obtain ⟨H, hH⟩ : ∃ H, (leftC (tkm m) (c :: R)).1 = H := ⟨_, rfl⟩
      obtain ⟨L2, hL2⟩ : ∃ L2, (leftC (tkm m) (c :: R)).2 = L2 := ⟨_, rfl⟩
      rw [hH, hL2] at h1
      have hp2 : Pr L2 := by
        rw [← hL2]
        rcases Pt.left_cases (tkm m) (c :: R) with ⟨c', t, R', e, _, h⟩ | ⟨h, _⟩
        · cases e; rw [h]; exact Pt.pr_right (L := [c]) hp
        · rw [h]; exact hp
      have h2 := rightO_is m (S := (leftO m S).1) hp2 (by rw [h1]; exact tl_strB _)
      obtain ⟨M, hM⟩ : ∃ M, (rightC (tkm m) L2).1 = M := ⟨_, rfl⟩
      obtain ⟨T, hT⟩ : ∃ T, (rightC (tkm m) L2).2 = T := ⟨_, rfl⟩
      have hp3 : Pr M := by
        rw [← hM]
        rcases Pt.right_cases (tkm m) L2 with ⟨M', c', t, e, _, h⟩ | ⟨h, _⟩
        · rw [h]; subst e; exact Pt.pr_left hp2
        · rw [h]; exact hp2
      rw [hM, hT] at h2
      rw [h2, h1, hH, hL2, hM, hT]
      dsimp only
      have hcK : chars (tl (strB (flat M))) = M := by rw [tl_strB, Pt.chars_flat M hp3]
      rw [Pt.flat_append, Pt.flat_append]
      have hz : ∀ i : Nat, tl (⟨((strB (flat H)).data.toList ++ ((strB (flat M)).extract 0 i).data.toList ++ loopO m ((strB (flat M)).extract i (strB (flat M)).size) ((strB (flat M)).extract i (strB (flat M)).size).size 0 ++ (strB (flat T)).data.toList).toArray⟩ : ByteArray) = flat H ++ ((flat M).take i ++ flat ((chars ((flat M).drop i)).flatMap (betw (tkm m)))) ++ flat T := by
        intro i
        show (List.toArray _).toList = _
        rw [List.toList_toArray]
        rw [loop_is m _ _ _ (by omega), List.drop_zero, extract_drop, extract_take]
        show tl (strB (flat H)) ++ tl (strB _) ++ _ ++ tl (strB (flat T)) = _
        rw [tl_strB, tl_strB, tl_strB, tl_strB, tl_strB, List.append_assoc (flat H)]
      have hz0 : flat H ++ ((flat M).take 0 ++ flat ((chars ((flat M).drop 0)).flatMap (betw (tkm m)))) ++ flat T = flat H ++ flat (M.flatMap (betw (tkm m))) ++ flat T := by
        rw [List.take_zero, List.nil_append, List.drop_zero, Pt.chars_flat M hp3]
      cases hpu : ((strB (flat H)).toList == [] && (strB (flat T)).toList == []) with
      | false =>
        rw [cond_false, if_neg (by decide)]
        rw [← hz0]
        exact hz 0
      | true =>
        rw [cond_true]
        rw [Bool.and_eq_true, tl_eq, tl_eq] at hpu
        have hH0 : flat H = [] := by have := hpu.1; rw [beq_iff_eq] at this; rw [← tl_strB (flat H)]; exact this
        have hT0 : flat T = [] := by have := hpu.2; rw [beq_iff_eq] at this; rw [← tl_strB (flat T)]; exact this
        rcases idx_is m (strB (flat M)) (strB (flat M)).size 0 (by omega) with ⟨g1, g2⟩ | ⟨q, g1, g2, g3, g4⟩
        · have : Lib.idxFunc (hitG 60 m) true (strB (flat M)) = -1 := g1
          rw [this, if_pos rfl, hH0, hT0, List.nil_append, List.append_nil]
          rw [List.drop_zero, hcK] at g2
          exact g2.symm
        · have : Lib.idxFunc (hitG 60 m) true (strB (flat M)) = q := g1
          rw [this, if_neg (by omega), Int.toNat_natCast, hz q]
          rw [List.drop_zero, hcK, Nat.sub_zero, tl_strB] at g4
          rw [g4]
end Go.Proofs.YtonmnpmklkbioaaDoor.Sy
/- What is written of a name has nothing that the mask takes: plain. Pieces of a path between its slashes. -/
namespace Go.Proofs.YtonmnpmklkbioaaDoor.Pt
open Go.Lib
set_option linter.unusedVariables false
set_option linter.unusedSimpArgs false
theorem sof_ge {r a : Nat} (h : sof r = some a) : 8219 ≤ r := by
  by_cases h1 : r < 9216
  · rw [sof_none h1] at h; cases h
  · omega
theorem signed_big {P : Nat → Bool} {c : Ch} {t : List Ch} (h : signed P c = some t) : t ≠ [] ∧ ∀ d ∈ t, ∃ q, d = .g q ∧ 8219 ≤ q := by
  rcases signed_cases h with ⟨r, rfl, h1, rfl⟩ | ⟨r, a, rfl, h1, h2, h3, rfl⟩
  · refine ⟨by simp, fun d hd => ?_⟩
    simp only [List.mem_singleton] at hd
    have := sgn_ge r
    exact ⟨_, hd, by omega⟩
  · refine ⟨by simp, fun d hd => ?_⟩
    simp only [List.mem_cons, List.not_mem_nil, or_false] at hd
    rcases hd with rfl | rfl
    · exact ⟨8219, rfl, Nat.le_refl _⟩
    · exact ⟨r, rfl, sof_ge h2⟩
theorem signed_no {P : Nat → Bool} {r : Nat} (h : signed P (.g r) = none) : P r = false := by
  cases hp : P r with
  | false => rfl
  | true => rw [signed_g, hp] at h; cases h
/-- What a character of a writing looks like. -/
def Big (d : Ch) : Prop := ∃ q, d = .g q ∧ 8219 ≤ q
def Hex (d : Ch) : Prop := ∃ n, n < 16 ∧ d = .g (hexc n)
def Plain (k : Tk) (c : Ch) : Prop := match c with
  | .g r => k.t r = false
  | .b _ => k.inv = false
theorem betw_shape (k : Tk) (c : Ch) : (betw k c = [c] ∧ Plain k c) ∨ (∃ d T, betw k c = d :: T ∧ Big d ∧ ∀ e ∈ T, Big e ∨ Hex e) := by
  cases c with
  | b x =>
    rw [betw_b]
    cases hi : k.inv with
    | false => exact .inl ⟨rfl, hi⟩
    | true =>
      have hx := x.toNat_lt
      refine .inr ⟨_, _, rfl, ⟨8219, rfl, Nat.le_refl _⟩, fun d hd => ?_⟩
      simp only [List.mem_cons, List.not_mem_nil, or_false] at hd
      rcases hd with rfl | rfl
      · exact .inr ⟨_, by omega, rfl⟩
      · exact .inr ⟨_, by omega, rfl⟩
  | g r =>
    rw [betw_g]
    by_cases hq : r = 8219
    · rw [if_pos hq]
      refine .inr ⟨_, _, rfl, ⟨8219, rfl, Nat.le_refl _⟩, fun d hd => ?_⟩
      simp only [List.mem_cons, List.not_mem_nil, or_false, or_self] at hd
      exact .inl ⟨8219, hd, Nat.le_refl _⟩
    · rw [if_neg hq]
      cases hs : signed k.t (.g r) with
      | none => exact .inl ⟨rfl, signed_no hs⟩
      | some t =>
        have hb := signed_big hs
        cases t with
        | nil => exact absurd rfl hb.1
        | cons d T => exact .inr ⟨d, T, rfl, hb.2 d List.mem_cons_self, fun e he => .inl (hb.2 e (List.mem_cons_of_mem _ he))⟩
/-- What a mask never takes: hexadecimal digits, and the point in the middle. -/
structure Tk.Fine (k : Tk) : Prop extends Tk.Ok k where
  hext : ∀ n, n < 16 → k.t (hexc n) = false
  hexr : ∀ n, n < 16 → k.r (hexc n) = false
  dott : k.t 46 = false
theorem big_t {k : Tk} {P : Nat → Bool} (hP : ∀ c, P c = true → c < 128) {q : Nat} (h : 8219 ≤ q) : P q = false := by
  cases hp : P q with
  | false => rfl
  | true => have := hP q hp; omega
theorem big_plain {k : Tk} (hk : k.Fine) {d : Ch} (h : Big d ∨ Hex d) : Plain k d := by
  rcases h with ⟨q, rfl, hq⟩ | ⟨n, hn, rfl⟩
  · exact big_t (k := k) hk.t hq
  · exact hk.hext n hn
theorem betw_plain {k : Tk} (hk : k.Fine) (c : Ch) : ∀ d ∈ betw k c, Plain k d := by
  rcases betw_shape k c with ⟨e, h⟩ | ⟨d, T, e, h1, h2⟩
  · rw [e]
    intro d hd
    rw [List.mem_singleton] at hd
    rw [hd]; exact h
  · rw [e]
    intro x hx
    rcases List.mem_cons.1 hx with rfl | hx
    · exact big_plain hk (.inl h1)
    · exact big_plain hk (h2 x hx)
/-- What stands at an end: nothing that P takes. -/
def NoP (P : Nat → Bool) (c : Ch) : Prop := ∀ r, c = .g r → P r = false
theorem big_noP {P : Nat → Bool} (hP : ∀ c, P c = true → c < 128) {d : Ch} (h : Big d) : NoP P d := by
  obtain ⟨q, rfl, hq⟩ := h
  intro r e
  cases e
  exact big_t (k := ⟨P, P, P, false, false⟩) hP hq
theorem signed_noP {P : Nat → Bool} {c : Ch} (h : signed P c = none) : NoP P c := by
  intro r e
  subst e
  exact signed_no h
/-- All, the first, the last of what is written. -/
theorem enc1_plain {k : Tk} (hk : k.Fine) (L : List Ch) : ∀ d ∈ enc1 k L, Plain k d := by
  have key : ∀ M : List Ch, ∀ d ∈ M.flatMap (betw k), Plain k d := by
    intro M d hd
    obtain ⟨c, _, h⟩ := List.mem_flatMap.1 hd
    exact betw_plain hk c d h
  have hl : ∀ d ∈ (leftC k L).1, Plain k d := by
    rcases left_cases k L with ⟨c, t, R, e, h1, h2⟩ | ⟨h1, _⟩
    · rw [h2]; exact fun d hd => big_plain hk (.inl ((signed_big h1).2 d hd))
    · rw [h1]; exact fun d hd => by cases hd
  have hr : ∀ d ∈ (rightC k (leftC k L).2).2, Plain k d := by
    rcases right_cases k (leftC k L).2 with ⟨c, t, R, e, h1, h2⟩ | ⟨h1, _⟩
    · rw [h2]; exact fun d hd => big_plain hk (.inl ((signed_big h1).2 d hd))
    · rw [h1]; exact fun d hd => by cases hd
  intro d hd
  unfold enc1 at hd
  rw [List.append_assoc, List.mem_append, List.mem_append] at hd
  rcases hd with h | h | h
  · exact hl d h
  · exact key _ d h
  · exact hr d h
theorem fm_first {k : Tk} (hk : k.Fine) {P : Nat → Bool} (hP : ∀ c, P c = true → c < 128) (c : Ch) (R : List Ch) (hc : signed P c = none) : ∀ Y d T, (c :: R).flatMap (betw k) ++ Y = d :: T → NoP P d := by
  intro Y d T e
  rw [List.flatMap_cons] at e
  rcases betw_shape k c with ⟨h, _⟩ | ⟨x, X, h, h1, _⟩
  · rw [h] at e
    cases e
    exact signed_noP hc
  · rw [h] at e
    cases e
    exact big_noP hP h1
theorem enc1_first {k : Tk} (hk : k.Fine) (L : List Ch) : ∀ d T, enc1 k L = d :: T → NoP k.l d := by
  intro d T e
  unfold enc1 at e
  have rt : ∀ t c, signed k.r c = some t → ∀ d T, t = d :: T → NoP k.l d := fun t c h d T e => big_noP hk.l ((signed_big h).2 d (by rw [e]; exact List.mem_cons_self))
  rcases left_cases k L with ⟨c, t, R, hL, h1, h2⟩ | ⟨h1, h2⟩
  · rw [h2] at e
    dsimp only at e
    obtain ⟨hn, hb⟩ := signed_big h1
    cases t with
    | nil => exact absurd rfl hn
    | cons x X =>
      cases e
      exact big_noP hk.l (hb _ List.mem_cons_self)
  · rw [h1] at e
    dsimp only at e
    rw [List.nil_append] at e
    rcases h2 with rfl | ⟨c, R, rfl, h2⟩
    · cases e
    · rcases right_cases k (c :: R) with ⟨M, x, t, hM, h3, h4⟩ | ⟨h4, _⟩
      · rw [h4] at e
        dsimp only at e
        cases M with
        | nil => exact rt t x h3 d T e
        | cons m M =>
          cases hM
          exact fm_first hk hk.l _ _ h2 _ d T e
      · rw [h4] at e
        dsimp only at e
        exact fm_first hk hk.l _ _ h2 _ d T e
theorem enc1_last {k : Tk} (hk : k.Fine) (L : List Ch) : ∀ T d, enc1 k L = T ++ [d] → NoP k.r d := by
  intro T d e
  have hlast : (enc1 k L).getLast? = some d := by rw [e, List.getLast?_concat]
  clear e
  unfold enc1 at hlast
  have lt : ∀ t c, signed k.l c = some t → ∀ d, t.getLast? = some d → NoP k.r d := fun t c h d e => big_noP hk.r ((signed_big h).2 d (List.mem_of_getLast? e))
  have rt : ∀ t c, signed k.r c = some t → ∀ (A : List Ch) d, (A ++ t).getLast? = some d → NoP k.r d := by
    intro t c h A d e
    rw [List.getLast?_append] at e
    cases hg : t.getLast? with
    | none => exact absurd (List.getLast?_eq_none_iff.1 hg) (signed_big h).1
    | some x =>
      rw [hg] at e
      cases e
      exact big_noP hk.r ((signed_big h).2 _ (List.mem_of_getLast? hg))
  obtain ⟨M, hM⟩ : ∃ M, (leftC k L).2 = M := ⟨_, rfl⟩
  obtain ⟨A, hA⟩ : ∃ A, (leftC k L).1 = A := ⟨_, rfl⟩
  rw [hM, hA] at hlast
  rcases right_cases k M with ⟨M', x, t, h0, h3, h4⟩ | ⟨h4, h5⟩
  · rw [h4] at hlast
    exact rt t x h3 _ d hlast
  · rw [h4] at hlast
    dsimp only at hlast
    rw [List.append_nil] at hlast
    rcases h5 with rfl | ⟨M', c, rfl, h5⟩
    · rw [List.flatMap_nil, List.append_nil] at hlast
      rcases left_cases k L with ⟨c, t, R, hL, h1, h2⟩ | ⟨h1, h2⟩
      · rw [h2] at hA
        cases hA
        exact lt _ _ h1 d hlast
      · rw [h1] at hA
        cases hA
        cases hlast
    · rw [List.getLast?_append, flat_last] at hlast
      have hb : (betw k c).getLast? = some d := by
        cases hg : (betw k c).getLast? with
        | none => exact absurd (List.getLast?_eq_none_iff.1 hg) (betw_ne k c)
        | some y => rw [hg] at hlast; exact hlast
      rcases betw_shape k c with ⟨h, _⟩ | ⟨y, Y, h, h1, h2⟩
      · rw [h] at hb
        cases hb
        exact signed_noP h5
      · have hm : d ∈ y :: Y := by rw [← h]; exact List.mem_of_getLast? hb
        have : Big d ∨ Hex d := by
          rcases List.mem_cons.1 hm with rfl | hm
          · exact .inl h1
          · exact h2 d hm
        rcases this with h | ⟨n, hn, rfl⟩
        · exact big_noP hk.r h
        · intro r e; cases e; exact hk.hexr n hn
/-- What is written is no name of points, if the mask has to do with these. -/
theorem dots_id {k : Tk} (hd : k.t 46 = false) : ∀ M : List Ch, (∀ d ∈ M.flatMap (betw k), d = .g 46) → M.flatMap (betw k) = M
  | [], _ => rfl
  | c :: M, h => by
    rw [List.flatMap_cons] at h ⊢
    have ih := dots_id hd M (fun d hd' => h d (List.mem_append_right _ hd'))
    rw [ih]
    rcases betw_shape k c with ⟨e, _⟩ | ⟨y, Y, e, ⟨q, hq, hq2⟩, _⟩
    · rw [e]; rfl
    · have := h y (List.mem_append_left _ (by rw [e]; exact List.mem_cons_self))
      rw [hq] at this
      cases this
      omega
theorem enc_dots {k : Tk} (hk : k.Fine) (hd : k.dot = true) (L : List Ch) : encC k L ≠ [.g 46] ∧ encC k L ≠ [.g 46, .g 46] := by
  have key : ∀ X : List Ch, (∀ d ∈ X, d = .g 46) → (X = [.g 46] ∨ X = [.g 46, .g 46]) → encC k L ≠ X := by
    intro X hX hX2 e
    have h1 : dotC k L = none := by
      cases h : dotC k L with
      | none => rfl
      | some t =>
        exfalso
        unfold encC at e
        rw [h] at e
        dsimp only at e
        subst e
        unfold dotC at h
        rw [if_pos hd] at h
        have bad : ∀ T : List Ch, .g 65294 ∈ T → some T ≠ some t := by
          intro T hT e
          cases e
          have := hX _ hT
          cases this
        split at h
        · exact bad _ (by simp) h
        · split at h
          · exact bad _ (by simp) h
          · split at h
            · exact bad _ (by simp) h
            · split at h
              · exact bad _ (by simp) h
              · cases h
    have e1 : enc1 k L = X := by
      unfold encC at e
      rw [h1] at e
      exact e
    have nb : ∀ {P : Nat → Bool} {c t}, signed P c = some t → (∀ d ∈ t, d ∈ X) → False := by
      intro P c t h h2
      obtain ⟨hn, hb⟩ := signed_big h
      obtain ⟨d, hd⟩ := List.exists_mem_of_ne_nil t hn
      obtain ⟨q, rfl, hq⟩ := hb d hd
      have := hX _ (h2 _ hd)
      cases this
      omega
    unfold enc1 at e1
    have l1 : leftC k L = ([], L) := by
      rcases left_cases k L with ⟨c, t, R, hL, h1, h2⟩ | ⟨h1, h2⟩
      · exfalso
        rw [h2] at e1
        exact nb h1 (fun d hd => by rw [← e1]; simp [hd])
      · exact h1
    rw [l1] at e1
    have r1 : rightC k L = (L, []) := by
      rcases right_cases k L with ⟨c, t, R, hL, h1, h2⟩ | ⟨h1, h2⟩
      · exfalso
        dsimp only at e1
        rw [h2] at e1
        exact nb h1 (fun d hd => by rw [← e1]; simp [hd])
      · exact h1
    dsimp only at e1
    rw [r1] at e1
    dsimp only at e1
    rw [List.nil_append, List.append_nil] at e1
    have := dots_id hk.dott L (fun d hd => hX d (by rw [← e1]; exact hd))
    rw [e1] at this
    subst this
    unfold dotC at h1
    rw [if_pos hd] at h1
    rcases hX2 with rfl | rfl
    · rw [if_pos rfl] at h1; cases h1
    · rw [if_neg (by decide), if_pos rfl] at h1; cases h1
  exact ⟨key _ (by simp) (.inl rfl), key _ (by simp) (.inr rfl)⟩
/-- All of it, at once. -/
theorem enc_kept {k : Tk} (hk : k.Fine) (L : List Ch) : (∀ d ∈ encC k L, Plain k d) ∧ (∀ d T, encC k L = d :: T → NoP k.l d) ∧ (∀ T d, encC k L = T ++ [d] → NoP k.r d) := by
  unfold encC
  cases h : dotC k L with
  | none => exact ⟨enc1_plain hk L, enc1_first hk L, enc1_last hk L⟩
  | some t =>
    dsimp only
    have hb : ∀ d ∈ t, Big d := by
      unfold dotC at h
      have g : Big (.g 65294) := ⟨65294, rfl, by omega⟩
      have q : Big qt := ⟨8219, rfl, Nat.le_refl _⟩
      split at h
      · split at h
        · cases h; simpa using g
        · split at h
          · cases h; simpa using g
          · split at h
            · cases h; simpa using ⟨q, g⟩
            · split at h
              · cases h; simpa using ⟨q, g, q, g⟩
              · cases h
      · cases h
    exact ⟨fun d hd => big_plain hk (.inl (hb d hd)), fun d T e => big_noP hk.l (hb d (by rw [e]; exact List.mem_cons_self)), fun T d e => big_noP hk.r (hb d (by rw [e]; simp))⟩
/-! no slash -/
theorem rune_low {r : Nat} (hr : Good r) {b : UInt8} (hb : b ∈ encodeRune (r : Int)) (h : b.toNat < 128) : r = b.toNat := by
  unfold Good at hr
  unfold encodeRune at hb
  rcases (show r ≤ 127 ∨ (128 ≤ r ∧ r ≤ 2047) ∨ (2048 ≤ r ∧ r < 65536) ∨ (65536 ≤ r ∧ r ≤ 1114111) by omega) with g | g | g | g
  · rw [encodeRuneZ_one (by omega) (by omega)] at hb
    have e0 := tb (r : Int) (by omega) (by omega)
    simp only [List.map_cons, List.map_nil, List.mem_singleton] at hb
    subst hb
    omega
  · rw [encodeRuneZ_two (by omega) (by omega)] at hb
    have e0 := tb (192 + (r : Int) / 64) (by omega) (by omega)
    have e1 := tb (128 + (r : Int) % 64) (by omega) (by omega)
    simp only [List.map_cons, List.map_nil, List.mem_cons, List.not_mem_nil, or_false] at hb
    rcases hb with rfl | rfl <;> omega
  · rw [encodeRuneZ_three (by omega)] at hb
    have e0 := tb (224 + (r : Int) / 4096) (by omega) (by omega)
    have e1 := tb (128 + (r : Int) / 64 % 64) (by omega) (by omega)
    have e2 := tb (128 + (r : Int) % 64) (by omega) (by omega)
    simp only [List.map_cons, List.map_nil, List.mem_cons, List.not_mem_nil, or_false] at hb
    rcases hb with rfl | rfl | rfl <;> omega
  · rw [encodeRuneZ_four (by omega) (by omega)] at hb
    have e0 := tb (240 + (r : Int) / 262144) (by omega) (by omega)
    have e1 := tb (128 + (r : Int) / 4096 % 64) (by omega) (by omega)
    have e2 := tb (128 + (r : Int) / 64 % 64) (by omega) (by omega)
    have e3 := tb (128 + (r : Int) % 64) (by omega) (by omega)
    simp only [List.map_cons, List.map_nil, List.mem_cons, List.not_mem_nil, or_false] at hb
    rcases hb with rfl | rfl | rfl | rfl <;> omega
theorem bad_high {x : UInt8} {t : List UInt8} (h : isBad (x :: t)) : 128 ≤ x.toNat := by
  by_cases hx : x.toNat < 128
  · exfalso
    unfold isBad at h
    rw [decodeL_N] at h
    unfold decodeN at h
    rw [if_pos (by simpa using hx)] at h
    simp at h
    omega
  · omega
theorem flat_low : ∀ {L : List Ch}, Pr L → ∀ {b : UInt8}, b ∈ flat L → b.toNat < 128 → .g b.toNat ∈ L
  | [], _, b, h, _ => by cases h
  | c :: L, hp, b, h, hb => by
    rw [flat_cons, List.mem_append] at h
    rcases h with h | h
    · cases c with
      | g r =>
        have := rune_low hp.1 h hb
        rw [this]; exact List.mem_cons_self
      | b x =>
        have e : b = x := by simpa [Ch.by] using h
        subst e
        have := bad_high hp.1
        omega
    · have hp2 : Pr L := by
        cases c with
        | g r => exact hp.2
        | b x => exact hp.2
      exact List.mem_cons_of_mem _ (flat_low hp2 h hb)
/-! pieces between slashes -/
def pieces : List UInt8 → List UInt8 → List (List UInt8)
  | p, [] => [p]
  | p, b :: l => if b = 47 then p :: pieces [] l else pieces (p ++ [b]) l
theorem pieces_nil (p : List UInt8) : pieces p [] = [p] := rfl
theorem pieces_cons (p : List UInt8) (b : UInt8) (l : List UInt8) : pieces p (b :: l) = if b = 47 then p :: pieces [] l else pieces (p ++ [b]) l := rfl
def joined : List (List UInt8) → List UInt8
  | [] => []
  | [p] => p
  | p :: q :: L => p ++ 47 :: joined (q :: L)
theorem pieces_ne (p l : List UInt8) : pieces p l ≠ [] := by
  induction l generalizing p with
  | nil => simp [pieces]
  | cons b l ih => unfold pieces; split <;> simp [ih]
theorem joined_cons (p : List UInt8) {L : List (List UInt8)} (h : L ≠ []) : joined (p :: L) = p ++ 47 :: joined L := by
  cases L with
  | nil => exact absurd rfl h
  | cons q L => rfl
theorem joined_pieces : ∀ l p : List UInt8, joined (pieces p l) = p ++ l
  | [], p => by simp [pieces, joined]
  | b :: l, p => by
    unfold pieces
    split
    · rename_i h
      rw [joined_cons _ (pieces_ne _ _), joined_pieces l, h]
      rfl
    · rw [joined_pieces l]; simp
theorem pieces_noslash : ∀ (l p : List UInt8), (∀ b ∈ l, b ≠ 47) → pieces p l = [p ++ l]
  | [], p, _ => by simp [pieces]
  | b :: l, p, h => by
    unfold pieces
    rw [if_neg (h b List.mem_cons_self), pieces_noslash l _ (fun c hc => h c (List.mem_cons_of_mem _ hc))]
    simp
theorem pieces_append : ∀ (a p : List UInt8) (l : List UInt8), (∀ b ∈ a, b ≠ 47) → pieces p (a ++ 47 :: l) = (p ++ a) :: pieces [] l
  | [], p, l, _ => by rw [List.nil_append, pieces_cons, if_pos rfl, List.append_nil]
  | b :: a, p, l, h => by
    rw [List.cons_append, pieces_cons, if_neg (h b List.mem_cons_self), pieces_append a _ l (fun c hc => h c (List.mem_cons_of_mem _ hc))]
    simp
theorem pieces_joined : ∀ L : List (List UInt8), L ≠ [] → (∀ p ∈ L, ∀ b ∈ p, b ≠ 47) → pieces [] (joined L) = L
  | [], h, _ => absurd rfl h
  | [p], _, h => by
    have := pieces_noslash p [] (h p List.mem_cons_self)
    simpa [joined] using this
  | p :: q :: L, _, h => by
    show pieces [] (p ++ 47 :: joined (q :: L)) = _
    rw [pieces_append p [] _ (h p List.mem_cons_self), pieces_joined (q :: L) (by simp) (fun x hx => h x (List.mem_cons_of_mem _ hx))]
    rfl
theorem joined_two : ∀ (A B : List (List UInt8)), A ≠ [] → B ≠ [] → joined (A ++ B) = joined A ++ 47 :: joined B
  | [], _, h, _ => absurd rfl h
  | [p], B, _, hB => by
    show joined (p :: B) = _
    rw [joined_cons _ hB]; rfl
  | p :: q :: A, B, _, hB => by
    show joined (p :: (q :: A ++ B)) = _
    rw [joined_cons p (L := q :: A ++ B) (List.cons_ne_nil _ _), joined_two (q :: A) B (List.cons_ne_nil _ _) hB, joined_cons p (L := q :: A) (List.cons_ne_nil _ _)]
    simp
theorem pieces_len : ∀ (l p : List UInt8), (pieces p l).length ≤ l.length + 1
  | [], p => by simp [pieces]
  | b :: l, p => by
    unfold pieces
    split
    · rw [List.length_cons, List.length_cons]; exact Nat.succ_le_succ (pieces_len l [])
    · rw [List.length_cons]; have := pieces_len l (p ++ [b]); omega
theorem joined_len : ∀ L : List (List UInt8), (joined L).length ≤ (L.map List.length).sum + L.length
  | [] => Nat.zero_le _
  | [p] => by simp [joined]
  | p :: q :: L => by
    have := joined_len (q :: L)
    rw [joined_cons _ (by simp), List.length_append, List.length_cons, List.map_cons, List.sum_cons, List.length_cons]
    omega
theorem pieces_sum : ∀ (l p : List UInt8), ((pieces p l).map List.length).sum ≤ p.length + l.length
  | [], p => by simp [pieces]
  | b :: l, p => by
    unfold pieces
    split
    · rw [List.map_cons, List.sum_cons]; have := pieces_sum l []; simp at this ⊢; omega
    · have := pieces_sum l (p ++ [b]); simp at this ⊢; omega
end Go.Proofs.YtonmnpmklkbioaaDoor.Pt
