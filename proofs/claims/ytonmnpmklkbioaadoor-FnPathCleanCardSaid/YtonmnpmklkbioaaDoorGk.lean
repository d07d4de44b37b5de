/- 3 texts of this claim, one behind the other. -/
import Derived.Test.YtonmnpmklkbioaaDoorGj
import Derived.Test.YtonmnpmklkbioaaDoorGf
/- What Decode does at one unit is what the plain words say. -/
namespace Go.Proofs.YtonmnpmklkbioaaDoor.Sy
open Go.RowKit Go.Proofs.YtonmnpmklkbioaaDoorW.PrintWords
open Go.Proofs.YtonmnpmklkbioaaDoor.Pt (Ch Tk flat chars chs isBad sgn sof signed betw leftC rightC encC dotC hexc isC run Pr hd qt lsign hexv decC dmid unq dleft dright undotC)
set_option linter.unusedVariables false
set_option linter.unusedSimpArgs false
def outE (r : Int) : List Eg → Option (List Int)
  | [] => some []
  | .rn y :: l => (outE r l).map (y.int r :: ·)
  | _ :: _ => none
def flagE : Option (E Ae) → Option Bool
  | some (.atom .ff) => some false
  | some (.lit (.bool b)) => some b
  | _ => none
def codeL (r : Int) : Lf Ae Eg → Option (List Int × Bool)
  | ⟨.exit 2, [e1, some (.atom .ff)], tr⟩ => (match outE r tr, flagE e1 with
    | some o, some b => some (o, b)
    | _, _ => none)
  | _ => none
abbrev Cd2 := List Int × Bool
def formM (r : Int) : List (DS Ae Eg) → Option (List (Int × Cd2) × Option Cd2)
  | [] => some ([], none)
  | .leaf ⟨.normal, [], []⟩ :: l => formM r l
  | .leaf ⟨.exit n, es, tr⟩ :: _ => (codeL r ⟨.exit n, es, tr⟩).map fun c => ([], some c)
  | .br (.has b) (.leaf ⟨.exit n, es, tr⟩) (.leaf ⟨.normal, [], []⟩) :: l => (match codeL r ⟨.exit n, es, tr⟩, formM r l with
    | some c, some F => some ((b, c) :: F.1, F.2)
    | _, _ => none)
  | _ => none
def pickM (m : Int) : List (Int × Cd2) → Option Cd2 → Option Cd2
  | [], o => o
  | (b, c) :: l, o => bif hasB m b then some c else pickM m l o
theorem runS_next {A F : Type} (B : A → Bool) (d : DS A F) {l : List (DS A F)} (hl : l ≠ []) {es : List (Option (E A))} (h : d.run B = ⟨.normal, es, []⟩) : runS B (d :: l) = runS B l := by
  cases l with
  | nil => exact absurd rfl hl
  | cons d2 l => simp only [runS, h, List.nil_append]
theorem runS_stop {A F : Type} (B : A → Bool) (d : DS A F) (l : List (DS A F)) {n : Nat} {es : List (Option (E A))} {tr : List F} (h : d.run B = ⟨.exit n, es, tr⟩) : runS B (d :: l) = ⟨.exit n, es, tr⟩ := by
  cases l with
  | nil => exact h
  | cons d2 l => simp only [runS, h]
theorem formM_run (m r : Int) (u q : Bool) (last : DS Ae Eg) : ∀ (ds : List (DS Ae Eg)) (F : List (Int × Cd2) × Option Cd2), formM r ds = some F →
    (∀ c, pickM m F.1 F.2 = some c → codeL r (runS (BmrE m r u q) (ds ++ [last])) = some c) ∧ (pickM m F.1 F.2 = none → runS (BmrE m r u q) (ds ++ [last]) = last.run (BmrE m r u q)) := by
  intro ds
  induction ds with
  | nil =>
    intro F h
    cases h
    exact ⟨fun c h => (by cases h), fun _ => rfl⟩
  | cons d ds ih =>
    intro F h
    have hne : ds ++ [last] ≠ [] := by simp
    unfold formM at h
    split at h
    · rename_i heq; cases heq
    · rename_i heq
      cases heq
      rw [List.cons_append, runS_next _ _ hne rfl]
      exact ih F h
    · rename_i heq
      cases heq
      obtain ⟨c, h1, rfl⟩ := Option.map_eq_some_iff.1 h
      rw [List.cons_append, runS_stop _ _ _ rfl]
      exact ⟨fun c' h => (by cases h; exact h1), fun h => (by cases h)⟩
    · rename_i b n es tr l0 heq
      cases heq
      split at h
      · rename_i c F' h1 h2
        cases h
        have hp : pickM m ((b, c) :: F'.1) F'.2 = bif hasB m b then some c else pickM m F'.1 F'.2 := rfl
        rw [hp, List.cons_append]
        cases hb : hasB m b with
        | true =>
          rw [runS_stop (n := n) (es := es) (tr := tr) _ _ _ (by simp only [DS.run, BmrE, hb, cond_true])]
          exact ⟨fun c' h => (by cases h; exact h1), fun h => (by cases h)⟩
        | false =>
          rw [runS_next (es := []) _ _ hne (by simp only [DS.run, BmrE, hb, cond_false])]
          exact ih F' h2
      · cases h
    · cases h
theorem outE_flat (r : Int) (S : ByteArray) (p : Nat) : ∀ (tr : List Eg) (o : List Int), outE r tr = some o → (tr.map (ebD r S p)).flatten = o.flatMap Lib.encodeRune
  | [], o, h => by cases h; rfl
  | e :: l, o, h => by
    cases e with
    | rn y =>
      obtain ⟨o', h1, rfl⟩ := Option.map_eq_some_iff.1 h
      rw [List.map_cons, List.flatten_cons, outE_flat r S p l o' h1]
      rfl
    | gr => cases h
    | st s => cases h
    | ub => cases h
theorem codeL_out {m r : Int} {u q : Bool} (S : ByteArray) (p : Nat) {l : Lf Ae Eg} {c : Cd2} (h : codeL r l = some c) : (l.tr.map (ebD r S p)).flatten = c.1.flatMap Lib.encodeRune ∧ eB (BmrE m r u q) (l.es.getD 0 none) = c.2 ∧ eB (BmrE m r u q) (l.es.getD 1 none) = false := by
  unfold codeL at h
  split at h
  · split at h
    · rename_i o b h1 h2
      cases h
      refine ⟨outE_flat r S p _ o h1, ?_, rfl⟩
      unfold flagE at h2
      split at h2
      · cases h2; rfl
      · cases h2; rfl
      · cases h2
    · cases h
  · cases h
def specMF (r : Nat) : List (Int × Cd2) × Option Cd2 :=
  if r = 8219 then ([], some ([], true)) else match sof r with
  | some c => if c = 0 then ([], some ([0], false)) else ((bitsOf c).map fun b => (b, ([(c : Int)], false)), none)
  | none => ([], none)
def specMT (r : Nat) : List (Int × Cd2) × Option Cd2 :=
  if r = 8219 then ([], some ([(r : Int)], false)) else match sof r with
  | some c => if c = 0 then ([], some ([(r : Int)], false)) else ((bitsOf c).map fun b => (b, ([(r : Int)], false)), none)
  | none => ([], none)
def specialsD : List Nat := [8219] ++ (List.range 34).map (· + 9216) ++ (List.range 94).map (· + 65281)
def knRE (r : Int) : Ae → Option Bool
  | .cmp o c => some (o.on r c)
  | _ => none
theorem knRE_ok (m r : Int) (u q : Bool) : ∀ t v, knRE r t = some v → BmrE m r u q t = v := by
  intro t v h
  cases t <;> simp [knRE] at h
  subst h
  rfl
def hFm : List (DS Ae Eg) := hF.dropLast
def hTm : List (DS Ae Eg) := hT.dropLast
def lastF : DS Ae Eg := .leaf ⟨.normal, [some (.atom .ff), some (.atom .ff)], [Eg.rn RE.r]⟩
def lastT : DS Ae Eg := .br (.has 16777216) (.br .unq (.leaf ⟨.exit 2, [some (.atom .ff), some (.atom .unq)], [Eg.ub]⟩) (.leaf ⟨.normal, [some (.atom .ff), some (.atom .unq)], [Eg.ub, Eg.rn (RE.cst (8219)), Eg.rn RE.r]⟩)) (.leaf ⟨.normal, [some (.atom .ff), some (.atom .ff)], [Eg.rn (RE.cst (8219)), Eg.rn RE.r]⟩)
theorem hF_is2 : hF = hFm ++ [lastF] := by kernel_rfl
theorem hT_is2 : hT = hTm ++ [lastT] := by kernel_rfl
def lastTe : DS Ae Eg := .br (.has 16777216) (.br .unq (.leaf ⟨.exit 2, [some (.atom .ff), some (.atom .unq)], [Eg.ub]⟩) (.leaf ⟨.exit 2, [some (.atom .ff), some (.atom .unq)], [Eg.ub, Eg.rn (RE.cst (8219)), Eg.st .subw]⟩)) (.leaf ⟨.exit 2, [some (.atom .ff), some (.atom .ff)], [Eg.rn (RE.cst (8219)), Eg.st .subw]⟩)
def lastFe : DS Ae Eg := .leaf ⟨.exit 2, [some (.atom .ff), some (.atom .ff)], [Eg.st .subw]⟩
theorem eF_is2 : eF = List.replicate 20 (.leaf ⟨.normal, [], []⟩) ++ [lastFe] := by kernel_rfl
theorem eT_is2 : eT = List.replicate 20 (.leaf ⟨.normal, [], []⟩) ++ [lastTe] := by kernel_rfl
set_option maxRecDepth 100000 in
theorem specialsF_ok : (specialsD.all fun (r : Nat) => decide (formM (r : Int) (hFm.map (norm (knRE (r : Int)))) = some (specMF r))) = true := by kernel_rfl
set_option maxRecDepth 100000 in
theorem specialsT_ok : (specialsD.all fun (r : Nat) => decide (formM (r : Int) (hTm.map (norm (knRE (r : Int)))) = some (specMT r))) = true := by kernel_rfl
/-- The comparisons of a rune between two bounds. -/
def knIE (lo hi : Int) : Ae → Option Bool
  | .cmp .eq c => if c < lo ∨ hi < c then some false else none
  | .cmp .le c => if c < lo then some false else if hi ≤ c then some true else none
  | .cmp .ge c => if hi < c then some false else if c ≤ lo then some true else none
  | .cmp .gt c => if hi ≤ c then some false else if c < lo then some true else none
  | _ => none
theorem knIE_ok {lo hi : Int} (m r : Int) (u q : Bool) (h1 : lo ≤ r) (h2 : r ≤ hi) : ∀ t v, knIE lo hi t = some v → BmrE m r u q t = v := by
  intro t v h
  unfold knIE at h
  split at h
  · split at h
    · cases h; show (r == _) = false; simp; omega
    · cases h
  · split at h
    · cases h; show decide (r ≤ _) = false; simp; omega
    · split at h
      · cases h; show decide (r ≤ _) = true; simp; omega
      · cases h
  · split at h
    · cases h; show decide (r ≥ _) = false; simp; omega
    · split at h
      · cases h; show decide (r ≥ _) = true; simp; omega
      · cases h
  · split at h
    · cases h; show decide (r > _) = false; simp; omega
    · split at h
      · cases h; show decide (r > _) = true; simp; omega
      · cases h
  · cases h
def mid20 : List (DS Ae Eg) := List.replicate 20 (.leaf ⟨.normal, [], []⟩)
set_option maxRecDepth 100000 in
theorem gF1 : hFm.map (norm (knIE 0 8218)) = mid20 := by kernel_rfl
set_option maxRecDepth 100000 in
theorem gF2 : hFm.map (norm (knIE 8220 9215)) = mid20 := by kernel_rfl
set_option maxRecDepth 100000 in
theorem gF3 : hFm.map (norm (knIE 9250 65280)) = mid20 := by kernel_rfl
set_option maxRecDepth 100000 in
theorem gF4 : hFm.map (norm (knIE 65375 1114111)) = mid20 := by kernel_rfl
set_option maxRecDepth 100000 in
theorem gT1 : hTm.map (norm (knIE 0 8218)) = mid20 := by kernel_rfl
set_option maxRecDepth 100000 in
theorem gT2 : hTm.map (norm (knIE 8220 9215)) = mid20 := by kernel_rfl
set_option maxRecDepth 100000 in
theorem gT3 : hTm.map (norm (knIE 9250 65280)) = mid20 := by kernel_rfl
set_option maxRecDepth 100000 in
theorem gT4 : hTm.map (norm (knIE 65375 1114111)) = mid20 := by kernel_rfl
theorem mid_form (r : Int) : formM r mid20 = some ([], none) := rfl
theorem mem_specialsD {r : Nat} : r ∈ specialsD ↔ r = 8219 ∨ (9216 ≤ r ∧ r ≤ 9249) ∨ (65281 ≤ r ∧ r ≤ 65374) := by
  unfold specialsD
  simp only [List.mem_append, List.mem_range, List.mem_cons, List.not_mem_nil, or_false, List.mem_map]
  constructor
  · rintro ((h | ⟨a, h1, h2⟩) | ⟨a, h1, h2⟩)
    · exact .inl h
    · exact .inr (.inl (by omega))
    · exact .inr (.inr (by omega))
  · rintro (h | h | h)
    · exact .inl (.inl h)
    · exact .inl (.inr ⟨r - 9216, by omega, by omega⟩)
    · exact .inr ⟨r - 65281, by omega, by omega⟩
theorem norm_app (B : Ae → Bool) (known : Ae → Option Bool) (h : ∀ t v, known t = some v → B t = v) : ∀ (ds : List (DS Ae Eg)) (last : DS Ae Eg), runS B (ds.map (norm known) ++ [last]) = runS B (ds ++ [last])
  | [], last => rfl
  | d :: l, last => by
    have ih := norm_app B known h l last
    have hn := norm_run B d known h
    have hne : l ++ [last] ≠ [] := by simp
    have hne' : l.map (norm known) ++ [last] ≠ [] := by simp
    obtain ⟨o, ho⟩ : ∃ o, d.run B = o := ⟨_, rfl⟩
    rw [ho] at hn
    obtain ⟨x, es, tr⟩ := o
    rw [List.map_cons, List.cons_append, List.cons_append]
    obtain ⟨a1, b1, e1⟩ : ∃ a b, l.map (norm known) ++ [last] = a :: b := by
      cases hl : l.map (norm known) ++ [last] with
      | nil => exact absurd hl hne'
      | cons a b => exact ⟨a, b, rfl⟩
    obtain ⟨a2, b2, e2⟩ : ∃ a b, l ++ [last] = a :: b := by
      cases hl : l ++ [last] with
      | nil => exact absurd hl hne
      | cons a b => exact ⟨a, b, rfl⟩
    rw [e1, e2] at ih
    rw [e1, e2]
    cases x with
    | normal => simp only [runS, hn, ho, ih]
    | exit n => simp only [runS, hn, ho]
    | ret => simp only [runS, hn, ho]
    | bad => simp only [runS, hn, ho]
theorem lsign_sof {P : Nat → Bool} {r : Nat} : lsign P (.g r) = match sof r with
    | some c => if P c then some c else none
    | none => none := rfl
theorem tk0 (m : Int) : (tkm m).t 0 = true := rfl
theorem tk_bits (m : Int) {c : Nat} (h : c ≠ 0) : (tkm m).t c = (bitsOf c).any (hasB m) := by
  show (Nat.beq c 0 || _) = _
  have : Nat.beq c 0 = false := by
    cases hb : Nat.beq c 0 with
    | false => rfl
    | true => exact absurd (by simpa using hb) h
  rw [this, Bool.false_or]
theorem pickM_const (m : Int) (o : Cd2) : ∀ l : List Int, pickM m (l.map fun b => (b, o)) none = if l.any (hasB m) = true then some o else none
  | [] => by simp [pickM]
  | b :: l => by
    rw [List.map_cons, List.any_cons]
    unfold pickM
    rw [pickM_const m o l]
    cases hasB m b <;> simp
/-- Of a rune that is no error: what is done behind no quote. -/
def midF (m : Int) (r : Nat) : Option Cd2 := if r = 8219 then some ([], true) else (lsign (tkm m).t (.g r)).map fun (c : Nat) => ([(c : Int)], false)
def midT (m : Int) (r : Nat) : Option Cd2 := if r = 8219 ∨ (lsign (tkm m).t (.g r)).isSome = true then some ([(r : Int)], false) else none
theorem pick_F (m : Int) (r : Nat) : pickM m (specMF r).1 (specMF r).2 = midF m r := by
  unfold specMF midF
  by_cases h : r = 8219
  · rw [if_pos h, if_pos h]; rfl
  · rw [if_neg h, if_neg h, lsign_sof]
    cases hs : sof r with
    | none => rfl
    | some c =>
      dsimp only
      by_cases hc : c = 0
      · subst hc
        rw [if_pos rfl, tk0]
        rfl
      · rw [if_neg hc, pickM_const, tk_bits m hc]
        cases (bitsOf c).any (hasB m) <;> rfl
theorem pick_T (m : Int) (r : Nat) : pickM m (specMT r).1 (specMT r).2 = midT m r := by
  unfold specMT midT
  by_cases h : r = 8219
  · rw [if_pos h, if_pos (.inl h)]; rfl
  · rw [if_neg h]
    cases hs : sof r with
    | none =>
      have hl : lsign (tkm m).t (.g r) = none := by rw [lsign_sof, hs]
      rw [if_neg (by rintro (e | e); exact h e; rw [hl] at e; cases e)]
      rfl
    | some c =>
      have hl : lsign (tkm m).t (.g r) = if (tkm m).t c = true then some c else none := by rw [lsign_sof, hs]
      dsimp only
      by_cases hc : c = 0
      · subst hc
        rw [tk0] at hl
        rw [if_pos rfl, if_pos (.inr (by rw [hl]; rfl))]
        rfl
      · rw [if_neg hc, pickM_const]
        rw [tk_bits m hc] at hl
        cases hb : (bitsOf c).any (hasB m) with
        | true =>
          rw [hb] at hl
          rw [if_pos rfl, if_pos (.inr (by rw [hl]; rfl))]
        | false =>
          rw [hb] at hl
          rw [if_neg (by decide), if_neg (by rintro (e | e); exact h e; rw [hl] at e; cases e)]
theorem not_special {m : Int} {r : Nat} (h : r ∉ specialsD) : r ≠ 8219 ∧ lsign (tkm m).t (.g r) = none := by
  rw [mem_specialsD] at h
  refine ⟨by omega, ?_⟩
  rw [lsign_sof]
  have hn : sof r = none := by
    unfold sof
    rw [if_neg (by omega), if_neg (by omega), if_neg (by omega)]
  rw [hn]
theorem runF (m : Int) (r : Nat) (hr : r ≤ 1114111) (u q : Bool) (last : DS Ae Eg) :
    (∀ c, midF m r = some c → codeL (r : Int) (runS (BmrE m (r : Int) u q) (hFm ++ [last])) = some c) ∧ (midF m r = none → runS (BmrE m (r : Int) u q) (hFm ++ [last]) = last.run (BmrE m (r : Int) u q)) := by
  by_cases hs : r ∈ specialsD
  · have hf := of_decide_eq_true (List.all_eq_true.1 specialsF_ok r hs)
    have hrun := formM_run m (r : Int) u q last _ _ hf
    rw [norm_app _ _ (knRE_ok m (r : Int) u q), pick_F] at hrun
    exact hrun
  · have hn := not_special (m := m) hs
    have hm : midF m r = none := by unfold midF; rw [if_neg hn.1, hn.2]; rfl
    have key : ∀ lo hi : Int, lo ≤ (r : Int) → (r : Int) ≤ hi → hFm.map (norm (knIE lo hi)) = mid20 → runS (BmrE m (r : Int) u q) (hFm ++ [last]) = last.run (BmrE m (r : Int) u q) := by
      intro lo hi h1 h2 h3
      have hrun := (formM_run m (r : Int) u q last _ _ (mid_form (r : Int))).2 rfl
      rw [← h3, norm_app _ _ (knIE_ok m (r : Int) u q h1 h2)] at hrun
      exact hrun
    rw [hm]
    refine ⟨fun c h => (by cases h), fun _ => ?_⟩
    rw [mem_specialsD] at hs
    rcases (show r ≤ 8218 ∨ (8220 ≤ r ∧ r ≤ 9215) ∨ (9250 ≤ r ∧ r ≤ 65280) ∨ (65375 ≤ r ∧ r ≤ 1114111) by omega) with h1 | h1 | h1 | h1
    · exact key 0 8218 (by omega) (by omega) gF1
    · exact key 8220 9215 (by omega) (by omega) gF2
    · exact key 9250 65280 (by omega) (by omega) gF3
    · exact key 65375 1114111 (by omega) (by omega) gF4
theorem runT (m : Int) (r : Nat) (hr : r ≤ 1114111) (u q : Bool) (last : DS Ae Eg) :
    (∀ c, midT m r = some c → codeL (r : Int) (runS (BmrE m (r : Int) u q) (hTm ++ [last])) = some c) ∧ (midT m r = none → runS (BmrE m (r : Int) u q) (hTm ++ [last]) = last.run (BmrE m (r : Int) u q)) := by
  by_cases hs : r ∈ specialsD
  · have hf := of_decide_eq_true (List.all_eq_true.1 specialsT_ok r hs)
    have hrun := formM_run m (r : Int) u q last _ _ hf
    rw [norm_app _ _ (knRE_ok m (r : Int) u q), pick_T] at hrun
    exact hrun
  · have hn := not_special (m := m) hs
    have hm : midT m r = none := by unfold midT; rw [if_neg (by rintro (e | e); exact hn.1 e; rw [hn.2] at e; cases e)]
    have key : ∀ lo hi : Int, lo ≤ (r : Int) → (r : Int) ≤ hi → hTm.map (norm (knIE lo hi)) = mid20 → runS (BmrE m (r : Int) u q) (hTm ++ [last]) = last.run (BmrE m (r : Int) u q) := by
      intro lo hi h1 h2 h3
      have hrun := (formM_run m (r : Int) u q last _ _ (mid_form (r : Int))).2 rfl
      rw [← h3, norm_app _ _ (knIE_ok m (r : Int) u q h1 h2)] at hrun
      exact hrun
    rw [hm]
    refine ⟨fun c h => (by cases h), fun _ => ?_⟩
    rw [mem_specialsD] at hs
    rcases (show r ≤ 8218 ∨ (8220 ≤ r ∧ r ≤ 9215) ∨ (9250 ≤ r ∧ r ≤ 65280) ∨ (65375 ≤ r ∧ r ≤ 1114111) by omega) with h1 | h1 | h1 | h1
    · exact key 0 8218 (by omega) (by omega) gT1
    · exact key 8220 9215 (by omega) (by omega) gT2
    · exact key 9250 65280 (by omega) (by omega) gT3
    · exact key 65375 1114111 (by omega) (by omega) gT4
/-- What is done at a character, behind no quote, or behind one: written, whether a quote stands then, whether one is skipped. -/
def stepC (k : Tk) (u : Bool) (q : Option UInt8) (c : Ch) : List Ch × Bool × Bool :=
  if u = true then (if c = qt ∨ (lsign k.t c).isSome = true then ([c], false, false) else match (if k.inv = true then q else none) with
    | some y => ([.b y], false, true)
    | none => ([qt, c], false, false))
  else if c = qt then ([], true, false) else match lsign k.t c with
    | some a => ([.g a], false, false)
    | none => ([c], false, false)
end Go.Proofs.YtonmnpmklkbioaaDoor.Sy
/- What Decode's loop writes is what the plain words say. -/
namespace Go.Proofs.YtonmnpmklkbioaaDoor.Sy
open Go.RowKit Go.Proofs.YtonmnpmklkbioaaDoorW.PrintWords
open Go.Proofs.YtonmnpmklkbioaaDoor.Given (hexB)
open Go.Proofs.YtonmnpmklkbioaaDoor.Pt (Ch Tk flat chars chs isBad sgn sof signed betw leftC rightC encC dotC hexc isC run Pr hd qt lsign hexv decC dmid unq dleft dright undotC)
set_option linter.unusedVariables false
set_option linter.unusedSimpArgs false
theorem flat_one (c : Ch) : flat [c] = c.by := by show c.by ++ [] = _; rw [List.append_nil]
theorem flat_two (c d : Ch) : flat [c, d] = c.by ++ d.by := by show c.by ++ (d.by ++ []) = _; rw [List.append_nil]
theorem by_qt : (qt : Ch).by = Lib.encodeRune 8219 := rfl
theorem flatMap_one (r : Int) : [r].flatMap Lib.encodeRune = Lib.encodeRune r := by simp
theorem lsign_err (P : Nat → Bool) : lsign P (.g 65533) = none := by
  rw [lsign_sof]
  have hn : sof 65533 = none := rfl
  rw [hn]
theorem subw_by {S : ByteArray} {p : Nat} (h : p < S.size) : (S.extract p (p + (Utf8.decode S p).2)).data.toList = (hd ((tl S).drop p)).by := by
  have hby := Pt.hd_by (drop_ne h)
  rw [Lib.decodeL_drop] at hby
  rw [hby, ByteArray.data_extract, Array.toList_extract, List.extract_eq_take_drop]
  rw [show p + (Utf8.decode S p).2 - p = (Utf8.decode S p).2 by omega]
theorem skip20 (B : Ae → Bool) (last : DS Ae Eg) : runS B (List.replicate 20 (.leaf ⟨.normal, [], []⟩) ++ [last]) = last.run B := by
  have : ∀ k, runS B (List.replicate k (.leaf ⟨.normal, [], []⟩) ++ [last]) = last.run B := by
    intro k
    induction k with
    | zero => rfl
    | succ k ih =>
      rw [List.replicate_succ, List.cons_append, runS_next _ _ (by simp) rfl]
      exact ih
  exact this 20
theorem unitD_is (m : Int) {S : ByteArray} {p : Nat} (h : p < S.size) (u : Bool) :
    outD m u S p = flat (stepC (tkm m) u (unqB (S.extract p S.size)) (hd ((tl S).drop p))).1 ∧ nxD m u S p = (stepC (tkm m) u (unqB (S.extract p S.size)) (hd ((tl S).drop p))).2.1 ∧ skD m u S p = (stepC (tkm m) u (unqB (S.extract p S.size)) (hd ((tl S).drop p))).2.2 := by
  have hdec := Lib.decodeL_drop S p
  have hle := Lib.rune_le S p
  have hsub := subw_by h
  obtain ⟨q, hq⟩ : ∃ q, unqB (S.extract p S.size) = q := ⟨_, rfl⟩
  have hub : ∀ r : Int, ebD r S p .ub = q.toList := fun r => by show (unqB (S.extract p S.size)).toList = _; rw [hq]
  have hinv : ∀ B : Prop, (if (tkm m).inv = true then q else none) = if hasB m 16777216 = true then q else none := fun _ => rfl
  unfold outD nxD skD leafD
  rw [hq]
  by_cases hr : (Utf8.decode S p).1 = 65533
  · have hr1 : Nat.beq (Utf8.decode S p).1 65533 = true := by rw [hr]; rfl
    rw [hr1]
    obtain ⟨c, hc⟩ : ∃ c, hd ((tl S).drop p) = c := ⟨_, rfl⟩
    have hne : c ≠ qt ∧ lsign (tkm m).t c = none := by
      rw [← hc]
      unfold hd
      split
      · exact ⟨fun e => (by cases e), rfl⟩
      · rw [hdec, hr]
        exact ⟨fun e => (by cases e), lsign_err _⟩
    rw [hc] at hsub ⊢
    cases u with
    | false =>
      have ht : treesD false true = eF := rfl
      rw [ht, eF_is2, skip20]
      have hs : stepC (tkm m) false q c = ([c], false, false) := by
        unfold stepC
        rw [if_neg (by decide), if_neg hne.1, hne.2]
      rw [hs]
      refine ⟨?_, rfl, rfl⟩
      rw [flat_one]
      show (S.extract p (p + (Utf8.decode S p).2)).data.toList ++ [] = _
      rw [List.append_nil, hsub]
    | true =>
      have ht : treesD true true = eT := rfl
      rw [ht, eT_is2, skip20]
      have hs : stepC (tkm m) true q c = match (if hasB m 16777216 = true then q else none) with
          | some y => ([.b y], false, true)
          | none => ([qt, c], false, false) := by
        unfold stepC
        rw [if_pos rfl, if_neg (by rintro (e | e); exact hne.1 e; rw [hne.2] at e; cases e)]
        rfl
      rw [hs]
      have h3 : ∀ es : List (Option (E Ae)), ([Eg.rn (RE.cst 8219), Eg.st .subw].map (ebD ((Utf8.decode S p).1 : Int) S p)).flatten = flat [qt, c] := by
        intro es
        rw [flat_two, by_qt]
        show Lib.encodeRune 8219 ++ ((S.extract p (p + (Utf8.decode S p).2)).data.toList ++ []) = _
        rw [List.append_nil, hsub]
      cases hi : hasB m 16777216 with
      | false =>
        rw [if_neg (by decide)]
        simp only [lastTe, DS.run, BmrE, hi, cond_false]
        exact ⟨h3 [], rfl, rfl⟩
      | true =>
        rw [if_pos rfl]
        cases q with
        | some y =>
          simp only [lastTe, DS.run, BmrE, hi, cond_true, Option.isSome_some]
          refine ⟨?_, rfl, rfl⟩
          simp only [List.map_cons, List.map_nil, hub]
          rfl
        | none =>
          simp only [lastTe, DS.run, BmrE, hi, cond_true, Option.isSome_none, cond_false]
          refine ⟨?_, rfl, rfl⟩
          rw [List.map_cons, List.flatten_cons, hub]
          exact h3 []
  · have hr1 : Nat.beq (Utf8.decode S p).1 65533 = false := by
      cases hb : Nat.beq (Utf8.decode S p).1 65533 with
      | false => rfl
      | true => exact absurd (by simpa using hb) hr
    have hb : ¬ isBad ((tl S).drop p) := by unfold isBad; rw [hdec]; exact fun e => hr e.1
    have e : hd ((tl S).drop p) = .g (Utf8.decode S p).1 := by unfold hd; rw [if_neg hb, hdec]
    rw [hr1, e]
    obtain ⟨r, hrr⟩ : ∃ r, (Utf8.decode S p).1 = r := ⟨_, rfl⟩
    rw [hrr] at hle hr ⊢
    have hg : (Ch.g r = qt) = (r = 8219) := by simp only [Ch.g.injEq]
    cases u with
    | false =>
      have ht : treesD false false = hF := rfl
      have hrun := runF m r hle false q.isSome lastF
      rw [ht, hF_is2]
      have hs : stepC (tkm m) false q (.g r) = match midF m r with
          | some c => (c.1.map fun z => Ch.g z.toNat, c.2, false)
          | none => ([.g r], false, false) := by
        unfold stepC midF
        rw [if_neg (by decide)]
        by_cases h8 : r = 8219
        · rw [if_pos (by rw [h8]), if_pos h8]; rfl
        · rw [if_neg (by rw [hg]; exact h8), if_neg h8]
          cases lsign (tkm m).t (.g r) with
          | none => rfl
          | some a => simp
      rw [hs]
      cases hm : midF m r with
      | some c =>
        have h1 := codeL_out (m := m) (u := false) (q := q.isSome) S p (hrun.1 c hm)
        dsimp only
        rw [h1.1, h1.2.1, h1.2.2]
        refine ⟨?_, rfl, rfl⟩
        have hpos : ∀ z ∈ c.1, ((z.toNat : Nat) : Int) = z := by
          unfold midF at hm
          split at hm
          · cases hm; intro z hz; cases hz
          · obtain ⟨a, _, rfl⟩ := Option.map_eq_some_iff.1 hm
            intro z hz
            simp only [List.mem_cons, List.not_mem_nil, or_false] at hz
            subst hz
            simp
        have key : ∀ l : List Int, (∀ z ∈ l, ((z.toNat : Nat) : Int) = z) → l.flatMap Lib.encodeRune = flat (l.map fun z => Ch.g z.toNat) := by
          intro l
          induction l with
          | nil => intro _; rfl
          | cons z l ih =>
            intro hz
            rw [List.flatMap_cons, List.map_cons, Pt.flat_cons, ih (fun y hy => hz y (List.mem_cons_of_mem _ hy))]
            congr 1
            show _ = Lib.encodeRune ((z.toNat : Nat) : Int)
            rw [hz z List.mem_cons_self]
        exact key c.1 hpos
      | none =>
        rw [hrun.2 hm]
        refine ⟨?_, rfl, rfl⟩
        rw [flat_one]
        show Lib.encodeRune (r : Int) ++ [] = _
        rw [List.append_nil]
        rfl
    | true =>
      have ht : treesD true false = hT := rfl
      have hrun := runT m r hle true q.isSome lastT
      rw [ht, hT_is2]
      by_cases hx : r = 8219 ∨ (lsign (tkm m).t (.g r)).isSome = true
      · have hm : midT m r = some ([(r : Int)], false) := by unfold midT; rw [if_pos hx]
        have h1 := codeL_out (m := m) (u := true) (q := q.isSome) S p (hrun.1 _ hm)
        have hs : stepC (tkm m) true q (.g r) = ([.g r], false, false) := by
          unfold stepC
          rw [if_pos rfl, if_pos (by rw [hg]; exact hx)]
        rw [hs, h1.1, h1.2.1, h1.2.2]
        refine ⟨?_, rfl, rfl⟩
        rw [flat_one, flatMap_one]
        rfl
      · have hm : midT m r = none := by unfold midT; rw [if_neg hx]
        rw [hrun.2 hm]
        have hs : stepC (tkm m) true q (.g r) = match (if hasB m 16777216 = true then q else none) with
            | some y => ([.b y], false, true)
            | none => ([qt, .g r], false, false) := by
          unfold stepC
          rw [if_pos rfl, if_neg (by rw [hg]; exact hx)]
          rfl
        rw [hs]
        have h3 : ([Eg.rn (RE.cst 8219), Eg.rn RE.r].map (ebD (r : Int) S p)).flatten = flat [qt, .g r] := by
          rw [flat_two, by_qt]
          show Lib.encodeRune 8219 ++ (Lib.encodeRune (r : Int) ++ []) = _
          rw [List.append_nil]
          rfl
        cases hi : hasB m 16777216 with
        | false =>
          rw [if_neg (by decide)]
          simp only [lastT, DS.run, BmrE, hi, cond_false]
          exact ⟨h3, rfl, rfl⟩
        | true =>
          rw [if_pos rfl]
          cases q with
          | some y =>
            simp only [lastT, DS.run, BmrE, hi, cond_true, Option.isSome_some]
            refine ⟨?_, rfl, rfl⟩
            simp only [List.map_cons, List.map_nil, hub]
            rfl
          | none =>
            simp only [lastT, DS.run, BmrE, hi, cond_true, Option.isSome_none, cond_false]
            refine ⟨?_, rfl, rfl⟩
            rw [List.map_cons, List.flatten_cons, hub]
            exact h3
/-! two hexadecimal digits -/
def qC : List Ch → Option UInt8
  | d :: e :: _ => (match hexv d, hexv e with
    | some a, some b => some (UInt8.ofNat (16 * a + b))
    | _, _ => none)
  | _ => none
def unqL : List UInt8 → Option UInt8
  | x :: y :: _ => hex2 x y
  | _ => none
theorem unqB_L (S : ByteArray) : unqB S = unqL (tl S) := by
  unfold unqB
  have hs := tl_size S
  cases hl : tl S with
  | nil => rw [hl] at hs; rw [if_pos (by simp at hs; omega)]; rfl
  | cons x l =>
    cases l with
    | nil => rw [hl] at hs; rw [if_pos (by simp at hs; omega)]; rfl
    | cons y l =>
      rw [hl] at hs
      simp only [List.length_cons] at hs
      rw [if_neg (by omega)]
      have h0 := getD_tl (S := S) (p := 0) (by omega)
      have h1 := getD_tl (S := S) (p := 1) (by omega)
      rw [hl] at h0 h1
      rw [← h0, ← h1]
      rfl
theorem good_lt {x : UInt8} (h : x.toNat < 128) : Pt.Good x.toNat := .inl (by omega)
theorem enc_lt {x : UInt8} (h : x.toNat < 128) : Lib.encodeRune ((x.toNat : Nat) : Int) = [x] := by
  rcases Pt.good_small (good_lt h) with ⟨_, _, h2⟩ | h2
  · rw [h2, UInt8.ofNat_toNat]
  · exact absurd h2.2.2.1 (by omega)
theorem hd_low {x : UInt8} (h : x.toNat < 128) (t : List UInt8) : hd (x :: t) = .g x.toNat ∧ chars (x :: t) = .g x.toNat :: chars t := by
  have h1 := Pt.hd_of_good (good_lt h) t
  have h2 := Pt.decode_good (good_lt h) t
  rw [enc_lt h] at h1 h2
  refine ⟨h1, ?_⟩
  have h3 : chars (x :: t) = hd (x :: t) :: chars ((x :: t).drop (Lib.decodeL (x :: t)).2) := Pt.chars_cons (by simp)
  rw [h3]
  have h2' : Lib.decodeL (x :: t) = (x.toNat, 1) := h2
  have h1' : hd (x :: t) = .g x.toNat := h1
  rw [h1', h2']
  rfl
theorem hexv_high {x : UInt8} (h : 128 ≤ x.toNat) (t : List UInt8) : hexv (hd (x :: t)) = none := by
  cases hc : hd (x :: t) with
  | b y => rfl
  | g r =>
    have hby := Pt.hd_by (l := x :: t) (by simp)
    have hg := Pt.hd_good hc
    rw [hc] at hby
    have h128 : 128 ≤ r := by
      rcases Pt.good_small hg with ⟨_, h1, h2⟩ | h2
      · exfalso
        have h3 : Ch.by (.g r) = [UInt8.ofNat r] := h2
        rw [h3] at hby
        have hw : (Lib.decodeL (x :: t)).2 ≠ 0 := by
          intro e; rw [e] at hby; cases hby
        obtain ⟨k, hk⟩ : ∃ k, (Lib.decodeL (x :: t)).2 = k + 1 := ⟨(Lib.decodeL (x :: t)).2 - 1, by omega⟩
        rw [hk, List.take_succ_cons] at hby
        have hx : UInt8.ofNat r = x := (List.cons.inj hby).1
        have : x.toNat = r := by rw [← hx]; simp; omega
        omega
      · exact h2.2.2.1
    show hexB r = none
    unfold hexB
    rw [if_neg (by omega), if_neg (by omega), if_neg (by omega)]
theorem hexB_high {x : Nat} (h : 128 ≤ x) : hexB x = none := by
  unfold hexB
  rw [if_neg (by omega), if_neg (by omega), if_neg (by omega)]
theorem hexv_hd (x : UInt8) (t : List UInt8) : hexv (hd (x :: t)) = hexB x.toNat := by
  by_cases h : x.toNat < 128
  · rw [(hd_low h t).1]; rfl
  · rw [hexv_high (by omega), hexB_high (by omega)]
theorem unq_chars (l : List UInt8) : unqL l = qC (chars l) := by
  cases l with
  | nil => rfl
  | cons x l =>
    by_cases hx : x.toNat < 128
    · rw [(hd_low hx l).2]
      cases l with
      | nil => rfl
      | cons y l =>
        have h2 : chars (y :: l) = hd (y :: l) :: chars ((y :: l).drop (Lib.decodeL (y :: l)).2) := Pt.chars_cons (by simp)
        rw [h2]
        show hex2 x y = match hexv (.g x.toNat), hexv (hd (y :: l)) with
          | some a, some b => some (UInt8.ofNat (16 * a + b))
          | _, _ => none
        rw [hexv_hd]
        rfl
    · have h2 : chars (x :: l) = hd (x :: l) :: chars ((x :: l).drop (Lib.decodeL (x :: l)).2) := Pt.chars_cons (by simp)
      rw [h2]
      have hn := hexv_high (x := x) (by omega) l
      have hq : ∀ M, qC (hd (x :: l) :: M) = none := by
        intro M
        cases M with
        | nil => rfl
        | cons e M =>
          show (match hexv (hd (x :: l)), hexv e with
            | some a, some b => some (UInt8.ofNat (16 * a + b))
            | _, _ => none) = none
          rw [hn]
      rw [hq]
      cases l with
      | nil => rfl
      | cons y l =>
        show hex2 x y = none
        unfold hex2
        rw [hexB_high (by omega)]
/-! the loop -/
def loopC (k : Tk) : List Ch → Bool → Bool → List Ch × Bool
  | [], n, _ => ([], n)
  | c :: L, n, s => bif s then loopC k L n false else ((stepC k n (qC (c :: L)) c).1 ++ (loopC k L (stepC k n (qC (c :: L)) c).2.1 (stepC k n (qC (c :: L)) c).2.2).1, (loopC k L (stepC k n (qC (c :: L)) c).2.1 (stepC k n (qC (c :: L)) c).2.2).2)
theorem loopD_is (m : Int) (S : ByteArray) : ∀ f p n s, S.size ≤ p + f → (loopD m S f p n s).1 = flat (loopC (tkm m) (chars ((tl S).drop p)) n s).1 ∧ (loopD m S f p n s).2 = (loopC (tkm m) (chars ((tl S).drop p)) n s).2
  | 0, p, n, s, h => by
    rw [drop_end (by omega)]
    exact ⟨rfl, rfl⟩
  | f + 1, p, n, s, h => by
    by_cases hp : p < S.size
    · have hw := Lib.width_pos S p
      have hch := chars_at hp
      rw [hch]
      cases s with
      | true =>
        have e1 : loopD m S (f + 1) p n true = loopD m S f (p + (Utf8.decode S p).2) n false := by simp only [loopD, if_pos hp, cond_true]
        rw [e1]
        exact loopD_is m S f _ n false (by omega)
      | false =>
        have e1 : (loopD m S (f + 1) p n false).1 = outD m n S p ++ (loopD m S f (p + (Utf8.decode S p).2) (nxD m n S p) (skD m n S p)).1 := by simp only [loopD, if_pos hp, cond_false]
        have e2 : (loopD m S (f + 1) p n false).2 = (loopD m S f (p + (Utf8.decode S p).2) (nxD m n S p) (skD m n S p)).2 := by simp only [loopD, if_pos hp, cond_false]
        have hq : unqB (S.extract p S.size) = qC (hd ((tl S).drop p) :: chars ((tl S).drop (p + (Utf8.decode S p).2))) := by
          rw [unqB_L, unq_chars, extract_drop, tl_strB, hch]
        have hu := unitD_is m hp n
        rw [hq] at hu
        have ih := loopD_is m S f (p + (Utf8.decode S p).2) (nxD m n S p) (skD m n S p) (by omega)
        rw [e1, e2, ih.1, ih.2, hu.1, hu.2.1, hu.2.2]
        refine ⟨?_, rfl⟩
        rw [← Pt.flat_append]
        rfl
    · have e1 : loopD m S (f + 1) p n s = ([], n) := by simp only [loopD, if_neg hp]
      rw [e1, drop_end hp]
      exact ⟨rfl, rfl⟩
theorem loopC_mid {k : Tk} : ∀ (f : Nat) (L : List Ch), L.length ≤ f → (loopC k L false false).1 ++ (bif (loopC k L false false).2 then [qt] else []) = dmid k f L := by
  intro f
  induction f using Nat.strongRecOn with
  | _ f ih =>
    intro L hL
    cases L with
    | nil => cases f <;> rfl
    | cons c L =>
      obtain ⟨g, rfl⟩ : ∃ g, f = g + 1 := ⟨f - 1, by simp at hL; omega⟩
      simp only [List.length_cons] at hL
      by_cases hc : c = qt
      · subst hc
        have h1 : loopC k (qt :: L) false false = loopC k L true false := by
          simp [loopC, stepC]
        rw [h1]
        show _ = (if qt = qt then (unq k L).1 :: dmid k g (L.drop ((unq k L).2 - 1)) else _)
        rw [if_pos rfl]
        cases L with
        | nil => cases g <;> rfl
        | cons d L =>
          simp only [List.length_cons] at hL
          by_cases hd : d = qt ∨ (lsign k.t d).isSome = true
          · have hs : stepC k true (qC (d :: L)) d = ([d], false, false) := by
              unfold stepC; rw [if_pos rfl, if_pos hd]
            have h2 : loopC k (d :: L) true false = (d :: (loopC k L false false).1, (loopC k L false false).2) := by
              simp only [loopC, cond_false, hs]; rfl
            have hu : unq k (d :: L) = (d, 2) := by
              simp only [unq]; rw [if_pos hd]
            rw [h2, hu]
            show d :: (_ ++ _) = d :: dmid k g L
            congr 1
            exact ih g (by omega) L (by omega)
          · have hd0 : d ≠ qt := fun e => hd (.inl e)
            have hdl : lsign k.t d = none := by
              cases h : lsign k.t d with
              | none => rfl
              | some a => exact absurd (.inr (by rw [h]; rfl)) hd
            cases hq : (if k.inv = true then qC (d :: L) else none) with
            | some y =>
              have hs : stepC k true (qC (d :: L)) d = ([.b y], false, true) := by
                unfold stepC; rw [if_pos rfl, if_neg hd, hq]
              have h2 : loopC k (d :: L) true false = (.b y :: (loopC k L false true).1, (loopC k L false true).2) := by
                simp only [loopC, cond_false, hs]; rfl
              have hi : k.inv = true := by
                cases hk : k.inv with
                | true => rfl
                | false => rw [hk] at hq; cases hq
              rw [if_pos hi] at hq
              cases L with
              | nil => cases hq
              | cons e L =>
                have hq' : (match hexv d, hexv e with
                  | some a, some b => some (UInt8.ofNat (16 * a + b))
                  | _, _ => none) = some y := hq
                have hu : unq k (d :: e :: L) = (.b y, 3) := by
                  simp only [unq]
                  rw [if_neg hd]
                  cases ha : hexv d with
                  | none => rw [ha] at hq'; cases hq'
                  | some a =>
                    cases hb : hexv e with
                    | none => rw [ha, hb] at hq'; cases hq'
                    | some b =>
                      rw [ha, hb] at hq'
                      cases hq'
                      dsimp only
                      rw [if_pos hi]
                have h3 : loopC k (e :: L) false true = loopC k L false false := rfl
                rw [h2, hu, h3]
                show Ch.b y :: (_ ++ _) = Ch.b y :: dmid k g L
                congr 1
                simp only [List.length_cons] at hL
                exact ih g (by omega) L (by omega)
            | none =>
              have hs : stepC k true (qC (d :: L)) d = ([qt, d], false, false) := by
                unfold stepC; rw [if_pos rfl, if_neg hd, hq]
              have h2 : loopC k (d :: L) true false = (qt :: d :: (loopC k L false false).1, (loopC k L false false).2) := by
                simp only [loopC, cond_false, hs]; rfl
              have hu : unq k (d :: L) = (qt, 1) := by
                simp only [unq]
                rw [if_neg hd]
                cases L with
                | nil => rfl
                | cons e L =>
                  show (match hexv d, hexv e with
                    | some x, some y => if k.inv = true then (Ch.b (UInt8.ofNat (16 * x + y)), 3) else (qt, 1)
                    | _, _ => (qt, 1)) = (qt, 1)
                  cases ha : hexv d with
                  | none => rfl
                  | some a =>
                    cases hb : hexv e with
                    | none => rfl
                    | some b =>
                      dsimp only
                      have hq2 : qC (d :: e :: L) = some (UInt8.ofNat (16 * a + b)) := by
                        show (match hexv d, hexv e with
                          | some a, some b => some (UInt8.ofNat (16 * a + b))
                          | _, _ => none) = _
                        rw [ha, hb]
                      rw [hq2] at hq
                      cases hk : k.inv with
                      | true => rw [hk] at hq; cases hq
                      | false => rfl
              rw [h2, hu]
              show qt :: (d :: _ ++ _) = qt :: dmid k g (d :: L)
              congr 1
              obtain ⟨g', rfl⟩ : ∃ g', g = g' + 1 := ⟨g - 1, by omega⟩
              have h4 : dmid k (g' + 1) (d :: L) = d :: dmid k g' L := by
                show (if d = qt then _ else (match lsign k.t d with | some a => .g a | none => d) :: dmid k g' L) = _
                rw [if_neg hd0, hdl]
              rw [h4]
              show d :: (_ ++ _) = _
              congr 1
              exact ih g' (by omega) L (by omega)
      · have h2 : loopC k (c :: L) false false = ((match lsign k.t c with | some a => Ch.g a | none => c) :: (loopC k L false false).1, (loopC k L false false).2) := by
          have hs : stepC k false (qC (c :: L)) c = ([match lsign k.t c with | some a => Ch.g a | none => c], false, false) := by
            unfold stepC
            rw [if_neg (by decide), if_neg hc]
            cases lsign k.t c <;> rfl
          simp only [loopC, cond_false, hs]; rfl
        rw [h2]
        show _ = (if c = qt then _ else (match lsign k.t c with | some a => Ch.g a | none => c) :: dmid k g L)
        rw [if_neg hc]
        show _ :: (_ ++ _) = _
        congr 1
        exact ih g (by omega) L (by omega)
theorem midO_is (m : Int) (T : ByteArray) : midO m T = flat (dmid (tkm m) (chars (tl T)).length (chars (tl T))) := by
  unfold midO
  have h := loopD_is m T T.size 0 false false (by omega)
  rw [List.drop_zero] at h
  rw [h.1, h.2, ← loopC_mid (k := tkm m) _ _ (Nat.le_refl _), Pt.flat_append]
  congr 1
  cases (loopC (tkm m) (chars (tl T)) false false).2 with
  | true => rfl
  | false => rfl
end Go.Proofs.YtonmnpmklkbioaaDoor.Sy
/- What Decode gives is what the plain words say of the name's characters. -/
namespace Go.Proofs.YtonmnpmklkbioaaDoor.Sy
open Go.RowKit Go.Proofs.YtonmnpmklkbioaaDoorW.PrintWords
open Go.Proofs.YtonmnpmklkbioaaDoor.Pt (Ch Tk flat chars chs isBad sgn sof signed betw leftC rightC encC dotC hexc isC run Pr hd qt lsign hexv decC dmid unq dleft dright undotC)
set_option linter.unusedVariables false
set_option linter.unusedSimpArgs false
/-! the closure: what it lets pass is read as it is -/
def specK68 (r : Nat) : Bool × List Int :=
  if r = 8219 then (true, []) else match sof r with
  | some c => if c = 0 then (true, []) else (false, bitsOf c)
  | none => (false, [])
set_option maxRecDepth 100000 in
theorem specialsK68_ok : (specialsD.all fun (r : Nat) => decide (formK (d68.map (norm (knA (r : Int)))) = some (specK68 r))) = true := by kernel_rfl
theorem hit68_is {m : Int} {r : Nat} (h : r ∈ specialsD) : hit68 m (r : Int) = ((specK68 r).2.any (hasB m) || (specK68 r).1) := by
  have hf := of_decide_eq_true (List.all_eq_true.1 specialsK68_ok r h)
  rw [← formK_run m (r : Int) _ _ hf]
  unfold hit68
  rw [List.any_map]
  have hk : ∀ t v, knA (r : Int) t = some v → (cxC ⟨0, 0, none⟩ m (r : Int)).B t = v := by
    intro t v h
    cases t <;> simp [knA] at h
    subst h
    rfl
  have key : ∀ ds : List (DS At RE), ds.all okHit = true → ds.any (DS.isT (cxC ⟨0, 0, none⟩ m (r : Int)).B) = ds.any ((fun d => isRet (d.run (cxC ⟨0, 0, none⟩ m (r : Int)).B)) ∘ norm (knA (r : Int))) := by
    intro ds
    induction ds with
    | nil => intro _; rfl
    | cons d ds ih =>
      intro h
      rw [List.all_cons, Bool.and_eq_true] at h
      rw [List.any_cons, List.any_cons, ih h.2, isT_ret _ d h.1]
      congr 1
      show _ = isRet ((norm (knA (r : Int)) d).run _)
      rw [norm_run _ d _ hk]
  exact key d68 d68_ok
theorem hit68_not {m : Int} {r : Nat} (h : hit68 m (r : Int) = false) : r ≠ 8219 ∧ lsign (tkm m).t (.g r) = none := by
  by_cases hs : r ∈ specialsD
  · rw [hit68_is hs] at h
    unfold specK68 at h
    by_cases h8 : r = 8219
    · rw [if_pos h8] at h; cases h
    · rw [if_neg h8] at h
      refine ⟨h8, ?_⟩
      rw [lsign_sof]
      cases hs : sof r with
      | none => rfl
      | some c =>
        rw [hs] at h
        dsimp only at h ⊢
        by_cases hc : c = 0
        · rw [if_pos hc] at h; cases h
        · rw [if_neg hc] at h
          simp only [Bool.or_false] at h
          rw [tk_bits m hc, h]
          rfl
  · exact not_special hs
theorem hd_pass {m : Int} {S : ByteArray} {p : Nat} (h : p < S.size) (hh : hitG 68 m (Utf8.decode S p).1 = false) : hd ((tl S).drop p) ≠ qt ∧ lsign (tkm m).t (hd ((tl S).drop p)) = none := by
  have h2 := hit68_not (m := m) (r := (Utf8.decode S p).1) hh
  have hdec := Lib.decodeL_drop S p
  unfold hd
  split
  · exact ⟨fun e => (by cases e), rfl⟩
  · rw [hdec]
    exact ⟨fun e => h2.1 (by simpa using e), h2.2⟩
theorem dmid_plain {k : Tk} {c : Ch} (h : c ≠ qt ∧ lsign k.t c = none) (f : Nat) (L : List Ch) : dmid k (f + 1) (c :: L) = c :: dmid k f L := by
  show (if c = qt then _ else (match lsign k.t c with | some a => Ch.g a | none => c) :: dmid k f L) = _
  rw [if_neg h.1, h.2]
def dmidA (k : Tk) (L : List Ch) : List Ch := dmid k L.length L
theorem dmidA_cons {k : Tk} {c : Ch} (h : c ≠ qt ∧ lsign k.t c = none) (L : List Ch) : dmidA k (c :: L) = c :: dmidA k L := dmid_plain h L.length L
theorem idx_isD (m : Int) (S : ByteArray) : ∀ f p, S.size ≤ p + f →
    (Lib.idxFuncFrom (hitG 68 m) true S f p = -1 ∧ flat (dmidA (tkm m) (chars ((tl S).drop p))) = (tl S).drop p) ∨
    ∃ q : Nat, Lib.idxFuncFrom (hitG 68 m) true S f p = q ∧ p ≤ q ∧ q < S.size ∧ flat (dmidA (tkm m) (chars ((tl S).drop p))) = ((tl S).drop p).take (q - p) ++ flat (dmidA (tkm m) (chars ((tl S).drop q)))
  | 0, p, h => by
    refine .inl ⟨rfl, ?_⟩
    rw [drop_end (by omega)]
    rfl
  | f + 1, p, h => by
    by_cases hp : p < S.size
    · have hw := Lib.width_pos S p
      cases hh : hitG 68 m (Utf8.decode S p).1 with
      | true =>
        refine .inr ⟨p, ?_, Nat.le_refl _, hp, ?_⟩
        · simp only [Lib.idxFuncFrom, if_pos hp, hh, if_true]
        · rw [Nat.sub_self, List.take_zero, List.nil_append]
      | false =>
        have e : Lib.idxFuncFrom (hitG 68 m) true S (f + 1) p = Lib.idxFuncFrom (hitG 68 m) true S f (p + (Utf8.decode S p).2) := by
          simp only [Lib.idxFuncFrom, if_pos hp, hh, Bool.false_eq_true, if_false]
        have hph := hd_pass hp hh
        have hby : (hd ((tl S).drop p)).by = ((tl S).drop p).take (Utf8.decode S p).2 := by
          rw [Pt.hd_by (drop_ne hp), Lib.decodeL_drop]
        rw [e, chars_at hp, dmidA_cons hph, Pt.flat_cons, hby]
        rcases idx_isD m S f (p + (Utf8.decode S p).2) (by omega) with ⟨h1, h2⟩ | ⟨q, h1, h2, h3, h4⟩
        · refine .inl ⟨h1, ?_⟩
          rw [h2, ← drop_next, List.take_append_drop]
        · refine .inr ⟨q, h1, by omega, h3, ?_⟩
          rw [h4, ← List.append_assoc]
          congr 1
          rw [← drop_next, show q - p = (Utf8.decode S p).2 + (q - (p + (Utf8.decode S p).2)) by omega, List.take_add]
    · refine .inl ⟨?_, ?_⟩
      · simp only [Lib.idxFuncFrom, if_neg hp]
      · rw [drop_end hp]; rfl
/-! the ends -/
theorem end_nilL {S : ByteArray} (h : tl S = []) : endD true S = (65533, 0) := by
  have hs : S.size = 0 := by rw [← tl_size, h]; rfl
  show Lib.decodeGo S = _
  unfold Lib.decodeGo
  rw [if_pos hs]
theorem end_nilR {S : ByteArray} (h : tl S = []) : endD false S = (65533, 0) := by
  show Lib.decodeLastL (tl S) = _
  rw [h]
  rfl
theorem by_ne (c : Ch) : c.by ≠ [] := by
  cases c with
  | b x => simp [Ch.by]
  | g r => exact Pt.good_ne r
theorem flat_ne {c : Ch} {R : List Ch} : flat (c :: R) ≠ [] := by
  rw [Pt.flat_cons]
  intro e
  exact by_ne c (List.append_eq_nil_iff.1 e).1
theorem end_L {S : ByteArray} {c : Ch} {R : List Ch} (hp : Pr (c :: R)) (hS : tl S = flat (c :: R)) : endD true S = (c.rn, c.by.length) ∧ cutD true S = strB (flat R) := by
  have hf := Pt.first_of hp
  have h1 : endD true S = (c.rn, c.by.length) := by
    show Lib.decodeGo S = _
    rw [decodeGo_tl (by rw [hS]; exact flat_ne), hS, hf]
  refine ⟨h1, ?_⟩
  unfold cutD
  rw [if_pos rfl, h1, extract_drop, hS, Pt.flat_cons, List.drop_left]
theorem end_R {S : ByteArray} {c : Ch} {R : List Ch} (hp : Pr (R ++ [c])) (hS : tl S = flat (R ++ [c])) : endD false S = (c.rn, c.by.length) ∧ cutD false S = strB (flat R) := by
  have hf := Pt.last_of hp
  have h1 : endD false S = (c.rn, c.by.length) := by
    show Lib.decodeLastL (tl S) = _
    rw [hS, hf]
  refine ⟨h1, ?_⟩
  have hfl : flat (R ++ [c]) = flat R ++ c.by := by rw [Pt.flat_append, Pt.flat_cons, Pt.flat_nil, List.append_nil]
  have hsz : S.size = (flat R).length + c.by.length := by rw [← tl_size, hS, hfl, List.length_append]
  unfold cutD
  rw [if_neg (by decide), h1, extract_take, hsz, Nat.add_sub_cancel, hS, hfl, List.take_left]
theorem beqI (r : Nat) (x : Nat) (X : Int) (h : X = (x : Int)) : ((r : Int) == X) = Nat.beq r x := by
  subst h
  rw [Bool.eq_iff_iff, beq_iff_eq, Nat.beq_eq]
  omega
theorem beq_f {r x : Nat} (h : r ≠ x) : Nat.beq r x = false := by
  cases hb : Nat.beq r x with
  | false => rfl
  | true => exact absurd (by simpa using hb) h
/-- The sign at an end, by the bits of that end. -/
theorem dl1_is (m : Int) (r : Nat) : dl1 m (r : Int) = (lsign (tkm m).l (.g r)).map fun (a : Nat) => (a : Int) := by
  have hl : ∀ c, (tkm m).l c = ((Nat.beq c 32 && hasB m 131072) || (Nat.beq c 46 && hasB m 262144) || (Nat.beq c 126 && hasB m 524288) || ((Nat.beq c 9 || Nat.beq c 10 || Nat.beq c 11 || Nat.beq c 13) && hasB m 1048576)) := fun _ => rfl
  rw [lsign_sof]
  unfold dl1
  rw [beqI r 9248 9248 rfl, beqI r 65294 65294 rfl, beqI r 65374 65374 rfl, beqI r 9225 9225 rfl, beqI r 9226 9226 rfl, beqI r 9227 9227 rfl, beqI r 9229 9229 rfl]
  by_cases h1 : r = 9248
  · subst h1
    rw [show sof 9248 = some 32 from rfl]
    dsimp only
    rw [hl]
    cases hasB m 131072 <;> simp
  by_cases h2 : r = 65294
  · subst h2
    rw [show sof 65294 = some 46 from rfl]
    dsimp only
    rw [hl]
    cases hasB m 262144 <;> simp
  by_cases h3 : r = 65374
  · subst h3
    rw [show sof 65374 = some 126 from rfl]
    dsimp only
    rw [hl]
    cases hasB m 524288 <;> simp
  by_cases h4 : r = 9225 ∨ r = 9226 ∨ r = 9227 ∨ r = 9229
  · rcases h4 with rfl | rfl | rfl | rfl
    · rw [show sof 9225 = some 9 from rfl]; dsimp only; rw [hl]; cases hasB m 1048576 <;> simp <;> rfl
    · rw [show sof 9226 = some 10 from rfl]; dsimp only; rw [hl]; cases hasB m 1048576 <;> simp <;> rfl
    · rw [show sof 9227 = some 11 from rfl]; dsimp only; rw [hl]; cases hasB m 1048576 <;> simp <;> rfl
    · rw [show sof 9229 = some 13 from rfl]; dsimp only; rw [hl]; cases hasB m 1048576 <;> simp <;> rfl
  · rw [beq_f h1, beq_f h2, beq_f h3, beq_f (by omega), beq_f (show r ≠ 9226 by omega), beq_f (show r ≠ 9227 by omega), beq_f (show r ≠ 9229 by omega)]
    simp only [Bool.and_false, Bool.or_self, Bool.false_eq_true, if_false]
    cases hs : sof r with
    | none => rfl
    | some c =>
      have hc := (Pt.sof_some hs).1
      dsimp only
      have hf : (tkm m).l c = false := by
        have n1 : c ≠ 32 := fun e => by subst e; exact h1 hc.symm
        have n2 : c ≠ 46 := fun e => by subst e; exact h2 hc.symm
        have n3 : c ≠ 126 := fun e => by subst e; exact h3 hc.symm
        have n4 : c ≠ 9 := fun e => by subst e; exact h4 (.inl hc.symm)
        have n5 : c ≠ 10 := fun e => by subst e; exact h4 (.inr (.inl hc.symm))
        have n6 : c ≠ 11 := fun e => by subst e; exact h4 (.inr (.inr (.inl hc.symm)))
        have n7 : c ≠ 13 := fun e => by subst e; exact h4 (.inr (.inr (.inr hc.symm)))
        rw [hl, beq_f n1, beq_f n2, beq_f n3, beq_f n4, beq_f n5, beq_f n6, beq_f n7]
        rfl
      rw [hf]
      rfl
theorem dr1_is (m : Int) (r : Nat) : dr1 m (r : Int) = (lsign (tkm m).r (.g r)).map fun (a : Nat) => (a : Int) := by
  have hl : ∀ c, (tkm m).r c = ((Nat.beq c 32 && hasB m 2097152) || (Nat.beq c 46 && hasB m 4194304) || ((Nat.beq c 9 || Nat.beq c 10 || Nat.beq c 11 || Nat.beq c 13) && hasB m 8388608)) := fun _ => rfl
  rw [lsign_sof]
  unfold dr1
  rw [beqI r 9248 9248 rfl, beqI r 65294 65294 rfl, beqI r 9225 9225 rfl, beqI r 9226 9226 rfl, beqI r 9227 9227 rfl, beqI r 9229 9229 rfl]
  by_cases h1 : r = 9248
  · subst h1
    rw [show sof 9248 = some 32 from rfl]
    dsimp only
    rw [hl]
    cases hasB m 2097152 <;> simp
  by_cases h2 : r = 65294
  · subst h2
    rw [show sof 65294 = some 46 from rfl]
    dsimp only
    rw [hl]
    cases hasB m 4194304 <;> simp
  by_cases h4 : r = 9225 ∨ r = 9226 ∨ r = 9227 ∨ r = 9229
  · rcases h4 with rfl | rfl | rfl | rfl
    · rw [show sof 9225 = some 9 from rfl]; dsimp only; rw [hl]; cases hasB m 8388608 <;> simp <;> rfl
    · rw [show sof 9226 = some 10 from rfl]; dsimp only; rw [hl]; cases hasB m 8388608 <;> simp <;> rfl
    · rw [show sof 9227 = some 11 from rfl]; dsimp only; rw [hl]; cases hasB m 8388608 <;> simp <;> rfl
    · rw [show sof 9229 = some 13 from rfl]; dsimp only; rw [hl]; cases hasB m 8388608 <;> simp <;> rfl
  · rw [beq_f h1, beq_f h2, beq_f (by omega), beq_f (show r ≠ 9226 by omega), beq_f (show r ≠ 9227 by omega), beq_f (show r ≠ 9229 by omega)]
    simp only [Bool.and_false, Bool.or_self, Bool.false_eq_true, if_false]
    cases hs : sof r with
    | none => rfl
    | some c =>
      have hc := (Pt.sof_some hs).1
      dsimp only
      have hf : (tkm m).r c = false := by
        have n1 : c ≠ 32 := fun e => by subst e; exact h1 hc.symm
        have n2 : c ≠ 46 := fun e => by subst e; exact h2 hc.symm
        have n4 : c ≠ 9 := fun e => by subst e; exact h4 (.inl hc.symm)
        have n5 : c ≠ 10 := fun e => by subst e; exact h4 (.inr (.inl hc.symm))
        have n6 : c ≠ 11 := fun e => by subst e; exact h4 (.inr (.inr (.inl hc.symm)))
        have n7 : c ≠ 13 := fun e => by subst e; exact h4 (.inr (.inr (.inr hc.symm)))
        rw [hl, beq_f n1, beq_f n2, beq_f n4, beq_f n5, beq_f n6, beq_f n7]
        rfl
      rw [hf]
      rfl
theorem lsign_rn (P : Nat → Bool) (c : Ch) : lsign P (.g c.rn) = lsign P c := by
  cases c with
  | g r => rfl
  | b x => exact lsign_err P
theorem rn_qt (c : Ch) : ((c.rn : Int) == 8219) = decide (c = qt) := by
  rw [beqI c.rn 8219 8219 rfl]
  cases c with
  | b x => rfl
  | g r =>
    rw [Bool.eq_iff_iff, Nat.beq_eq, decide_eq_true_eq]
    show r = 8219 ↔ Ch.g r = Ch.g 8219
    simp
theorem dleftO_is (m : Int) {S : ByteArray} {L : List Ch} (hp : Pr L) (hS : tl S = flat L) : dleftO m S = (strB (flat (dleft (tkm m) L).2), strB (flat (dleft (tkm m) L).1)) := by
  have hSS : S = strB (flat L) := by rw [← hS, strB_tl]
  cases L with
  | nil =>
    unfold dleftO
    rw [end_nilL hS]
    have h1 : dl1 m ((65533 : Nat) : Int) = none := by rw [dl1_is, lsign_err]; rfl
    dsimp only
    rw [h1, hSS]
    rfl
  | cons c L =>
    obtain ⟨e1, e2⟩ := end_L hp hS
    unfold dleftO
    rw [e1, e2]
    dsimp only
    rw [dl1_is, lsign_rn, rn_qt, Pt.dleft_cons]
    cases hl : lsign (tkm m).l c with
    | some a =>
      dsimp only [Option.map_some]
      rw [flat_one]
      rfl
    | none =>
      dsimp only [Option.map_none]
      cases L with
      | nil =>
        dsimp only
        have h1 : dl1 m (((endD true (strB (flat []))).1 : Nat) : Int) = none := by
          rw [end_nilL (S := strB (flat [])) (tl_strB _), dl1_is, lsign_err]; rfl
        rw [h1, hSS]
        split <;> rfl
      | cons d L =>
        have hp2 : Pr (d :: L) := Pt.pr_right (L := [c]) hp
        obtain ⟨e3, e4⟩ := end_L (S := strB (flat (d :: L))) hp2 (tl_strB _)
        rw [e3, e4]
        dsimp only
        rw [dl1_is, lsign_rn]
        by_cases hq : c = qt
        · rw [if_pos (by simpa using hq)]
          cases hd : lsign (tkm m).l d with
          | none =>
            dsimp only [Option.map_none]
            rw [if_neg (by rintro ⟨_, e⟩; cases e), hSS]
            rfl
          | some a =>
            dsimp only [Option.map_some]
            rw [if_pos ⟨hq, rfl⟩]
            dsimp only
            rw [flat_one]
            cases d with
            | b x => cases hd
            | g r => rfl
        · rw [if_neg (by simpa using hq), if_neg (by rintro ⟨e, _⟩; exact hq e), hSS]
          rfl
theorem last_qt (R : List Ch) (hp : Pr R) : (((endD false (strB (flat R))).1 : Int) == 8219) = decide (R.getLast? = some qt) := by
  by_cases hR : R = []
  · subst hR
    rw [end_nilR (S := strB (flat [])) (tl_strB _)]
    rfl
  · obtain ⟨M, c, rfl⟩ : ∃ M c, R = M ++ [c] := ⟨R.dropLast, R.getLast hR, (List.dropLast_concat_getLast hR).symm⟩
    obtain ⟨e1, _⟩ := end_R (S := strB (flat (M ++ [c]))) hp (tl_strB _)
    rw [e1, List.getLast?_concat]
    dsimp only
    rw [rn_qt]
    simp
theorem drightO_is (m : Int) {S : ByteArray} {L : List Ch} (hp : Pr L) (hS : tl S = flat L) : drightO m S = (strB (flat (dright (tkm m) L).1), strB (flat (dright (tkm m) L).2)) := by
  have hSS : S = strB (flat L) := by rw [← hS, strB_tl]
  by_cases hL : L = []
  · subst hL
    unfold drightO
    rw [end_nilR hS]
    have h1 : dr1 m ((65533 : Nat) : Int) = none := by rw [dr1_is, lsign_err]; rfl
    dsimp only
    rw [h1, hSS]
    rfl
  · obtain ⟨R, c, rfl⟩ : ∃ M c, L = M ++ [c] := ⟨L.dropLast, L.getLast hL, (List.dropLast_concat_getLast hL).symm⟩
    obtain ⟨e1, e2⟩ := end_R hp hS
    have hpR : Pr R := Pt.pr_left hp
    unfold drightO dright
    rw [e1, e2, List.getLast?_concat]
    dsimp only
    rw [dr1_is, lsign_rn, List.dropLast_concat, last_qt R hpR]
    cases hl : lsign (tkm m).r c with
    | none =>
      dsimp only [Option.map_none]
      rw [hSS]
      rfl
    | some a =>
      dsimp only [Option.map_some]
      by_cases hq : R.getLast? = some qt
      · have hR : R ≠ [] := by intro e; rw [e] at hq; cases hq
        obtain ⟨M, d, rfl⟩ : ∃ M d, R = M ++ [d] := ⟨R.dropLast, R.getLast hR, (List.dropLast_concat_getLast hR).symm⟩
        obtain ⟨_, e4⟩ := end_R (S := strB (flat (M ++ [d]))) hpR (tl_strB _)
        rw [if_pos (by simpa using hq), if_pos hq, e4, List.dropLast_concat]
        dsimp only
        rw [flat_one]
        cases c with
        | b x => cases hl
        | g r => rfl
      · rw [if_neg (by simpa using hq), if_neg hq]
        dsimp only
        rw [flat_one]
        rfl
theorem undotO_is (m : Int) (S : ByteArray) : undotO m S = (undotC (tkm m) (chars (tl S))).map fun t => strB (flat t) := by
  unfold undotO undotC
  have g1 : Pt.Good 8219 := good_of (by omega)
  have g2 : Pt.Good 65294 := good_of (by omega)
  rw [show S.toList = tl S from tl_eq S]
  have e1 : (tl S == [239, 188, 142]) = decide (chars (tl S) = [.g 65294]) := by
    rw [show ([239, 188, 142] : List UInt8) = flat [.g 65294] by decide]; exact chars_eq ⟨g2, trivial⟩
  have e2 : (tl S == [239, 188, 142, 239, 188, 142]) = decide (chars (tl S) = [.g 65294, .g 65294]) := by
    rw [show ([239, 188, 142, 239, 188, 142] : List UInt8) = flat [.g 65294, .g 65294] by decide]; exact chars_eq ⟨g2, g2, trivial⟩
  have e3 : (tl S == [226, 128, 155, 239, 188, 142]) = decide (chars (tl S) = [qt, .g 65294]) := by
    rw [show ([226, 128, 155, 239, 188, 142] : List UInt8) = flat [qt, .g 65294] by decide]; exact chars_eq ⟨g1, g2, trivial⟩
  have e4 : (tl S == [226, 128, 155, 239, 188, 142, 226, 128, 155, 239, 188, 142]) = decide (chars (tl S) = [qt, .g 65294, qt, .g 65294]) := by
    rw [show ([226, 128, 155, 239, 188, 142, 226, 128, 155, 239, 188, 142] : List UInt8) = flat [qt, .g 65294, qt, .g 65294] by decide]; exact chars_eq ⟨g1, g2, g1, g2, trivial⟩
  rw [e1, e2, e3, e4]
  show (bif hasB m 33554432 then _ else _) = (if hasB m 33554432 = true then _ else _ : Option (List Ch)).map _
  cases hasB m 33554432 with
  | false => rfl
  | true =>
    simp only [cond_true, if_true]
    by_cases h1 : chars (tl S) = [.g 65294]
    · simp [h1]; decide
    · by_cases h2 : chars (tl S) = [.g 65294, .g 65294]
      · simp [h2]; decide
      · by_cases h3 : chars (tl S) = [qt, .g 65294]
        · simp [h3]; decide
        · by_cases h4 : chars (tl S) = [qt, .g 65294, qt, .g 65294]
          · simp [h4]; decide
          · simp [h1, h2, h3, h4]
theorem dleft_pr {k : Tk} {L : List Ch} (hp : Pr L) : Pr (dleft k L).2 := by
  cases L with
  | nil => exact hp
  | cons c L =>
    rw [Pt.dleft_cons]
    cases lsign k.l c with
    | some a => exact Pt.pr_right (L := [c]) hp
    | none =>
      cases L with
      | nil => exact hp
      | cons d L =>
        dsimp only
        split
        · exact Pt.pr_right (L := [c, d]) hp
        · exact hp
theorem dright_pr {k : Tk} {L : List Ch} (hp : Pr L) : Pr (dright k L).1 := by
  by_cases hL : L = []
  · subst hL; exact hp
  · obtain ⟨R, c, rfl⟩ : ∃ M c, L = M ++ [c] := ⟨L.dropLast, L.getLast hL, (List.dropLast_concat_getLast hL).symm⟩
    unfold dright
    rw [List.getLast?_concat]
    dsimp only
    cases lsign k.r c with
    | none => exact hp
    | some a =>
      dsimp only
      rw [List.dropLast_concat]
      split
      · rename_i hq
        have hR : R ≠ [] := by intro e; rw [e] at hq; cases hq
        obtain ⟨M, d, rfl⟩ : ∃ M d, R = M ++ [d] := ⟨R.dropLast, R.getLast hR, (List.dropLast_concat_getLast hR).symm⟩
        rw [List.dropLast_concat]
        exact Pt.pr_left (Pt.pr_left hp)
      · exact Pt.pr_left hp
/-- DECODE, IN PLAIN WORDS. -/
theorem dec_is (m : Int) (S : ByteArray) (hm : m ≠ 1) : tl (decO m S) = flat (decC (tkm m) (chars (tl S))) := by
  have hm1 : (m == 1) = false := by simpa using hm
  have hp := Pt.pr_chars (tl S)
  have hfl := Pt.flat_chars' (tl S)
  unfold decO dfrontO
  rw [hm1, cond_false, undotO_is]
  obtain ⟨L, hL⟩ : ∃ L, chars (tl S) = L := ⟨_, rfl⟩
  rw [hL] at hp hfl ⊢
  unfold decC
  cases hd : undotC (tkm m) L with
  | some t => exact tl_strB _
  | none =>
    dsimp only [Option.map]
    unfold dendsO
    have h1 := dleftO_is m hp hfl.symm
    obtain ⟨H, hH⟩ : ∃ H, (dleft (tkm m) L).1 = H := ⟨_, rfl⟩
    obtain ⟨L2, hL2⟩ : ∃ L2, (dleft (tkm m) L).2 = L2 := ⟨_, rfl⟩
    have hp2 : Pr L2 := by rw [← hL2]; exact dleft_pr hp
    rw [hH, hL2] at h1
    have h2 := drightO_is m (S := (dleftO m S).1) hp2 (by rw [h1]; exact tl_strB _)
    obtain ⟨M, hM⟩ : ∃ M, (dright (tkm m) L2).1 = M := ⟨_, rfl⟩
    obtain ⟨T, hT⟩ : ∃ T, (dright (tkm m) L2).2 = T := ⟨_, rfl⟩
    have hp3 : Pr M := by rw [← hM]; exact dright_pr hp2
    rw [hM, hT] at h2
    rw [h2, h1, hH, hL2, hM, hT]
    dsimp only
    have hcK : chars (tl (strB (flat M))) = M := by rw [tl_strB, Pt.chars_flat M hp3]
    rw [Pt.flat_append, Pt.flat_append]
    have hz : ∀ i : Nat, tl (⟨((strB (flat H)).data.toList ++ ((strB (flat M)).extract 0 i).data.toList ++ midO m ((strB (flat M)).extract i (strB (flat M)).size) ++ (strB (flat T)).data.toList).toArray⟩ : ByteArray) = flat H ++ ((flat M).take i ++ flat (dmidA (tkm m) (chars ((flat M).drop i)))) ++ flat T := by
      intro i
      show (List.toArray _).toList = _
      rw [List.toList_toArray]
      rw [midO_is, extract_drop, extract_take]
      show tl (strB (flat H)) ++ tl (strB _) ++ _ ++ tl (strB (flat T)) = _
      rw [tl_strB, tl_strB, tl_strB, tl_strB, tl_strB, List.append_assoc (flat H)]
      rfl
    have hz0 : flat H ++ ((flat M).take 0 ++ flat (dmidA (tkm m) (chars ((flat M).drop 0)))) ++ flat T = flat H ++ flat (dmid (tkm m) M.length M) ++ flat T := by
      rw [List.take_zero, List.nil_append, List.drop_zero, Pt.chars_flat M hp3]
      rfl
    cases hpu : ((strB (flat H)).toList == [] && (strB (flat T)).toList == []) with
    | false =>
      rw [cond_false, if_neg (by decide)]
      rw [← hz0]
      exact hz 0
    | true =>
      rw [cond_true]
      rw [Bool.and_eq_true, tl_eq, tl_eq] at hpu
      have hH0 : flat H = [] := by have := hpu.1; rw [beq_iff_eq] at this; rw [← tl_strB (flat H)]; exact this
      have hT0 : flat T = [] := by have := hpu.2; rw [beq_iff_eq] at this; rw [← tl_strB (flat T)]; exact this
      rcases idx_isD m (strB (flat M)) (strB (flat M)).size 0 (by omega) with ⟨g1, g2⟩ | ⟨q, g1, g2, g3, g4⟩
      · have : Lib.idxFunc (hitG 68 m) true (strB (flat M)) = -1 := g1
        rw [this, if_pos rfl, hH0, hT0, List.nil_append, List.append_nil]
        rw [List.drop_zero, hcK] at g2
        exact g2.symm
      · have : Lib.idxFunc (hitG 68 m) true (strB (flat M)) = q := g1
        rw [this, if_neg (by omega), Int.toNat_natCast, hz q]
        rw [List.drop_zero, hcK, Nat.sub_zero, tl_strB] at g4
        show _ = flat H ++ flat (dmidA (tkm m) M) ++ flat T
        rw [g4]
end Go.Proofs.YtonmnpmklkbioaaDoor.Sy
