/- Plain facts on the printed functions of sets of ranges: what every law asks first; what Find tells, held against the parts. No conditions beyond those that each states. -/
import Derived.Test.YtmkhkkfliecfdaaPureB
namespace Go.Proofs.Ytmkhkkfliecfdaa.Pure
open Go.RowKit Go.Proofs.Ytmkhkkfliecfdaa.PT Go.Proofs.YtmkhkkfliecfdaaW.PrintWords Go.Proofs.YtmkhkkfliecfdaaW.PrintLast Go.Proofs.Ytmkhkkfliecfdaa.Pl Go.Proofs.Ytmkhkkfliecfdaa.Given
set_option linter.unusedVariables false
set_option linter.unusedSimpArgs false

theorem prelude {l : List S24} {p s : Int} (j0 : Nat → Bool → Option Bool) (hskip : ∀ k, j0 (k + 1) true = some true)
    (main : (∀ r ∈ l, rin r) → l.length ≤ 60 → rin ⟨p, s⟩ → 0 ≤ s → Ev (fun k => j0 k false) true) :
    Ev (fun k => if (l.length : Int) > 2147483647 then some true else (spec_RangesIn.f k l).bind fun t => if t = true then (spec_RangeAsk.f p s).bind fun t' => j0 k (!t') else j0 k true) true := by
  by_cases hbig : (l.length : Int) > 2147483647
  · exact Ev.congr (fun k => if_pos hbig) (Ev.now true)
  · refine Ev.congr (fun k => if_neg hbig) ?_
    have sk : Ev (fun k => j0 k true) true := Ev.step (f := fun _ => some true) hskip (Ev.now _)
    obtain ⟨b, hb, hb'⟩ := rangesIn_law l (by omega)
    refine Ev.bind hb ?_
    cases b with
    | false => exact Ev.congr (fun k => if_neg (by decide)) sk
    | true =>
      obtain ⟨h1, h2⟩ := hb' rfl
      obtain ⟨t, ht, ht'⟩ := rangeAsk_law p s
      refine Ev.congr (f := fun k => j0 k (!t)) (fun k => by rw [if_pos rfl, ht, Option.bind_some]) ?_
      cases t with
      | false => exact sk
      | true =>
        obtain ⟨h3, h4⟩ := ht' rfl
        exact main h1 h2 h3 h4
theorem awake_then {F : Nat → Option Bool} (h : Ev F true) : Ev (fun k => (laws_rangeAwake.f k).bind fun t => if t = true then F k else some false) true :=
  Ev.bind awake_law (Ev.congr (fun k => if_pos rfl) h)
theorem near_ask {p s : Int} (h : rin ⟨p, s⟩) : Near (p, s) := by
  obtain ⟨h1, h2, h3, h4⟩ := h
  simp only at h1 h2 h3 h4
  exact ⟨by simp only; omega, by simp only; omega, by simp only; omega, by simp only; omega⟩
theorem found_law {l : List S24} (hr : ∀ r ∈ l, rin r) {p s : Int} (hs : 1 ≤ s) : Given.Found (setP (prs l)) (p, s) (findP (setP (prs l)) (p, s)).1 (findP (setP (prs l)) (p, s)).2.1 (findP (setP (prs l)) (p, s)).2.2 :=
  findP_law _ (p, s) (-1099511627777) (set_law hr).1 hs
theorem head_law {h : Int → Prop} {L : List (Int × Int)} (hh : ∀ z, Has L z ↔ h z) {p s : Int} {c n : Int × Int} {b : Bool} {x : (Int × Int) × Bool} {xs : List ((Int × Int) × Bool)}
    (hf : Given.Found L (p, s) c n b) (hc : Cov h p (x :: xs) (p + s)) : c.1 = x.1.1 ∧ c.2 = x.1.2 ∧ b = x.2 := by
  obtain ⟨a1, a2, a3, a4, a5⟩ := hc
  obtain ⟨f1, f2, f3, f4, f5, f6⟩ := hf
  simp only at f1 f3 f5 f6
  have hb : b = x.2 := by
    have e1 := f4 p ⟨by omega, by omega⟩
    have e2 := a3 p ⟨by omega, by omega⟩
    exact bool_iff (P := h p) ((hh p).symm.trans e1) e2
  have hle := a5.le
  refine ⟨by omega, ?_, hb⟩
  have k1 : ¬ c.2 < x.1.2 := by
    intro hlt
    have e1 := (f5 (by omega)).1
    have e2 := a3 (p + c.2) ⟨by omega, by omega⟩
    rw [hh, e2, ← hb] at e1
    cases b <;> simp at e1
  have k2 : ¬ x.1.2 < c.2 := by
    intro hlt
    cases xs with
    | nil => simp only [Cov] at a5; omega
    | cons y ys =>
      obtain ⟨b1, b2, b3, b4, b5⟩ := a5
      have hy : y.2 ≠ x.2 := a4 y rfl
      have e1 := f4 (p + x.1.2) ⟨by omega, by omega⟩
      have e2 := b3 (p + x.1.2) ⟨by omega, by omega⟩
      rw [hh, e2] at e1
      apply hy
      rw [← hb]
      cases hy2 : y.2 <;> cases hb2 : b <;> simp_all
  omega
theorem find_of {l : List S24} (hr : ∀ r ∈ l, rin r) (hl : l.length ≤ 60) {p s : Int} (hps : rin ⟨p, s⟩) :
    ((impl_inserted.f l).bind fun t => ranges_Find.f t p s) = some ((findP (setP (prs l)) (p, s)).1.1, (findP (setP (prs l)) (p, s)).1.2, (findP (setP (prs l)) (p, s)).2.1.1, (findP (setP (prs l)) (p, s)).2.1.2, (findP (setP (prs l)) (p, s)).2.2) := by
  rw [inserted_law hr (by omega), Option.bind_some, find_law hr hl (near_ask hps)]
theorem findP_none (L : List (Int × Int)) (p s : Int) (h : s ≤ 0) : findP L (p, s) = ((p, s), (0, 0), false) := by unfold findP; rw [if_pos (by exact h)]
/-- the parts of a range that isn't empty begin with what Find tells -/
theorem parts_find {l : List S24} (hr : ∀ r ∈ l, rin r) (hl : l.length ≤ 60) {p s : Int} (hps : rin ⟨p, s⟩) (hs : 1 ≤ s) :
    ∃ x P, Ev (fun k => spec_RangeParts.f k l p s) (x :: P) ∧ Cov (Byte l) p ((x :: P).map pr31) (p + s) ∧ (x :: P).length ≤ 200 ∧
      (findP (setP (prs l)) (p, s)).1 = (x.f0.f0, x.f0.f1) ∧ (findP (setP (prs l)) (p, s)).2.2 = x.f1 ∧ x.f0.f0 = p ∧ 1 ≤ x.f0.f1 ∧ x.f0.f1 ≤ s := by
  obtain ⟨P, h1, h2, h3⟩ := parts_law hr hl hps hs
  cases P with
  | nil => simp only [List.map_nil, Cov] at h2; omega
  | cons x P =>
    have h2' : Cov (Byte l) p (pr31 x :: P.map pr31) (p + s) := h2
    obtain ⟨k1, k2, k3⟩ := head_law (set_law hr).2.1 (found_law hr hs) h2'
    obtain ⟨a1, a2, a3, a4, a5⟩ := h2'
    have := a5.le
    exact ⟨x, P, h1, h2, h3, Prod.ext k1 k2, k3, a1, a2, by simp only [pr31] at this; omega⟩
end Go.Proofs.Ytmkhkkfliecfdaa.Pure
