/- FnRangesMissing: what is missing of a range begins at its first absent part and reaches to its end, by the package and by the reference; it is empty just if the range is present. No conditions. -/
import Derived.Test.YtmkhkkfliecfdaaPTx48
import Derived.Test.YtmkhkkfliecfdaaPureP
namespace Go.Proofs.Ytmkhkkfliecfdaa.Pure
open Go.RowKit Go.Proofs.Ytmkhkkfliecfdaa.PT Go.Proofs.YtmkhkkfliecfdaaW.PrintWords Go.Proofs.YtmkhkkfliecfdaaW.PrintLast Go.Proofs.Ytmkhkkfliecfdaa.Pl Go.Proofs.Ytmkhkkfliecfdaa.Given
set_option linter.unusedVariables false
set_option linter.unusedSimpArgs false

/-- what is missing: from the end of the first part on, if that is there; all, if it isn't -/
def missP (l : List S24) (p s : Int) : Int × Int :=
  if s ≤ 0 then (p, s) else if (findP (setP (prs l)) (p, s)).2.2 then (p + (findP (setP (prs l)) (p, s)).1.2, s - (findP (setP (prs l)) (p, s)).1.2) else (p, s)
theorem missing_law {l : List S24} (hr : ∀ r ∈ l, rin r) (hl : l.length ≤ 60) {p s : Int} (hps : rin ⟨p, s⟩) (hs0 : 0 ≤ s) : impl_RangesMissing.f l p s = some (missP l p s) := by
  unfold impl_RangesMissing.f impl_given.f impl_told.f ranges_Ranges_FindMissing.f ranges_Range_IsEmpty.f ranges_Range_End.f
  rw [inserted_law hr (by omega), Option.bind_some, Option.bind_some, Option.bind_some]
  unfold missP
  by_cases h0 : s ≤ 0
  · simp only [decide_eq_true h0, if_true, Option.bind_some, if_pos h0]
  · simp only [decide_eq_false h0, Bool.false_eq_true, if_false, if_neg h0]
    rw [find_law hr hl (near_ask hps)]
    have hf := found_law hr (p := p) (s := s) (by omega)
    generalize findP (setP (prs l)) (p, s) = F at *
    obtain ⟨c, n, b⟩ := F
    simp only at hf
    simp only [Option.bind_some]
    cases b with
    | false => rfl
    | true =>
      obtain ⟨p1, p2, p3, p4⟩ := hps
      simp only at p1 p2 p3 p4
      have e1 := hf.at_
      have e2 := hf.pos
      have e3 := hf.le
      simp only at e1 e3
      have w1 : wrap64 (c.1 + c.2) = p + c.2 := by rw [e1]; exact wrap64_id (by omega) (by omega)
      have w2 : wrap64 (p + c.2 - p) = c.2 := by rw [show p + c.2 - p = c.2 by omega]; exact wrap64_id (by omega) (by omega)
      have w3 : wrap64 (s - c.2) = s - c.2 := wrap64_id (by omega) (by omega)
      simp only [if_true, w1, w2, w3, Option.bind_some]
theorem miss_at (P : List S31) (hP : P.length ≤ 200) (e : Int) (i : Nat) (hi : i < P.length) (hf : P[i].f1 = false) (hb : wrap64 (e - P[i].f0.f0) = e - P[i].f0.f0) :
    Ev (fun k => spec_RangesMissing.l0 k e P (P.length : Int) (i : Int)) (P[i].f0.f0, e - P[i].f0.f0) := by
  refine Ev.step (f := fun _ => some (P[i].f0.f0, e - P[i].f0.f0)) (fun k => ?_) (Ev.now _)
  simp only [spec_RangesMissing.l0]
  rw [if_pos (by omega), if_pos (by omega), if_pos (by omega), rd31 hi, if_neg (by rw [hf]; decide), hb]
theorem miss_on (P : List S31) (hP : P.length ≤ 200) (e : Int) (i : Nat) (hi : i < P.length) (hf : P[i].f1 = true) (r : Int × Int) (h : Ev (fun k => spec_RangesMissing.l0 k e P (P.length : Int) ((i + 1 : Nat) : Int)) r) :
    Ev (fun k => spec_RangesMissing.l0 k e P (P.length : Int) (i : Int)) r := by
  refine Ev.step (fun k => ?_) h
  simp only [spec_RangesMissing.l0]
  rw [if_pos (by omega), if_pos (by omega), if_pos (by omega), rd31 hi, if_pos hf, w1 (by omega)]
theorem miss_end (P : List S31) (e : Int) (i : Nat) (hi : i = P.length) : Ev (fun k => spec_RangesMissing.l0 k e P (P.length : Int) (i : Int)) (e, 0) :=
  Ev.step (f := fun _ => some (e, 0)) (fun k => by simp only [spec_RangesMissing.l0]; rw [if_neg (by omega)]) (Ev.now _)
theorem specMissing_law {l : List S24} (hr : ∀ r ∈ l, rin r) (hl : l.length ≤ 60) {p s : Int} (hps : rin ⟨p, s⟩) (hs0 : 0 ≤ s) : Ev (fun k => spec_RangesMissing.f k l p s) (missP l p s) := by
  have hps' := hps
  obtain ⟨p1, p2, p3, p4⟩ := hps'
  simp only at p1 p2 p3 p4
  have hw : wrap64 (p + s) = p + s := wrap64_id (by omega) (by omega)
  have hunf : ∀ k, spec_RangesMissing.f k l p s = (spec_RangeParts.f k l p s).bind fun t => spec_RangesMissing.l0 k (p + s) t (t.length : Int) ((0 : Nat) : Int) := fun k => by simp only [spec_RangesMissing.f]; rw [hw]; rfl
  refine Ev.congr hunf ?_
  by_cases h0 : s = 0
  · subst h0
    have hp : ∀ k, spec_RangeParts.f k l p 0 = some [] := fun k => by simp only [spec_RangeParts.f]; rw [if_pos (by omega)]
    refine Ev.congr (fun k => by rw [hp, Option.bind_some]) ?_
    have := miss_end [] (p + 0) 0 rfl
    unfold missP
    rw [if_pos (by omega)]
    simpa using this
  · obtain ⟨x, P, h1, h2, h3, h4, h5, h6, h7, h8⟩ := parts_find hr hl hps (show 1 ≤ s by omega)
    refine Ev.bind h1 ?_
    unfold missP
    rw [if_neg (by omega), h4, h5]
    simp only
    cases hx : x.f1 with
    | false =>
      rw [if_neg (by decide)]
      have := miss_at (x :: P) h3 (p + s) 0 (by simp) hx (by simp only [List.getElem_cons_zero]; exact wrap64_id (by omega) (by omega))
      simp only [List.getElem_cons_zero] at this
      rw [h6] at this
      rwa [show p + s - p = s by omega] at this
    | true =>
      rw [if_pos rfl]
      refine miss_on (x :: P) h3 (p + s) 0 (by simp) hx _ ?_
      obtain ⟨a1, a2, a3, a4, a5⟩ := (show Cov (Byte l) p (pr31 x :: P.map pr31) (p + s) from h2)
      simp only [pr31] at a5
      cases P with
      | nil =>
        simp only [List.map_nil, Cov] at a5
        have := miss_end [x] (p + s) 1 rfl
        rw [show p + x.f0.f1 = p + s by omega, show s - x.f0.f1 = 0 by omega]
        exact this
      | cons y ys =>
        have hy : y.f1 ≠ x.f1 := a4 (pr31 y) rfl
        have hyf : y.f1 = false := by rw [hx] at hy; simpa using hy
        obtain ⟨b1, b2, b3, b4, b5⟩ := (show Cov (Byte l) (p + x.f0.f1) (pr31 y :: ys.map pr31) (p + s) from a5)
        simp only [pr31] at b1
        have := miss_at (x :: y :: ys) h3 (p + s) 1 (by simp) hyf (by simp only [List.getElem_cons_succ, List.getElem_cons_zero]; exact wrap64_id (by omega) (by omega))
        simp only [List.getElem_cons_succ, List.getElem_cons_zero] at this
        rw [b1] at this
        rwa [show p + s - (p + x.f0.f1) = s - x.f0.f1 by omega] at this
theorem FnRangesMissing : laws_FnRangesMissing.Pure := by
  intro l p s _ _ _
  refine (prelude (fun k b => laws_FnRangesMissing.j0 k l b p s) (fun k => by simp [laws_FnRangesMissing.j0]) fun hr hl hps hs0 => ?_).rounds
  refine Ev.step (fun k => by simp only [laws_FnRangesMissing.j0]; exact if_neg (by decide)) (awake_then ?_)
  rw [missing_law hr hl hps hs0]
  simp only [Option.bind_some]
  refine Ev.bind (specMissing_law hr hl hps hs0) ?_
  simp only [beq_self_eq_true, Bool.and_self, if_true]
  obtain ⟨p1, p2, p3, p4⟩ := hps
  simp only at p1 p2 p3 p4
  have hw : wrap64 (p + s) = p + s := wrap64_id (by omega) (by omega)
  have hm : (missP l p s).1 + (missP l p s).2 = p + s ∧ decide ((missP l p s).2 ≤ 0) = presB l p s := by
    unfold missP presB
    by_cases h0 : s ≤ 0
    · rw [if_pos h0]; exact ⟨rfl, by simp [h0]⟩
    · rw [if_neg h0]
      have hf := found_law hr (p := p) (s := s) (by omega)
      generalize findP (setP (prs l)) (p, s) = F at *
      obtain ⟨c, n, b⟩ := F
      have e3 := hf.le
      simp only at e3
      cases b with
      | false => exact ⟨rfl, by simp [h0]⟩
      | true =>
        simp only [if_true, decide_eq_false h0, Bool.false_or, Bool.true_and]
        refine ⟨by omega, ?_⟩
        by_cases he : c.2 = s
        · rw [decide_eq_true he, decide_eq_true (by omega)]
        · rw [decide_eq_false he, decide_eq_false (by omega)]
  have he : impl_RangeEnd.f (missP l p s).1 (missP l p s).2 = some (p + s) := by
    unfold impl_RangeEnd.f impl_given.f ranges_Range_End.f
    simp only [Option.bind_some]
    rw [hm.1, hw]
  have hem : impl_RangeEmpty.f (missP l p s).1 (missP l p s).2 = some (presB l p s) := by
    show some (decide ((missP l p s).2 ≤ 0)) = _
    rw [hm.2]
  rw [he]
  simp only [Option.bind_some]
  rw [if_pos hw.symm, hem]
  simp only [Option.bind_some]
  rw [present_law hr hl ⟨p1, p2, p3, p4⟩ hs0]
  simp only [Option.bind_some, beq_self_eq_true]
  exact Ev.now true
end Go.Proofs.Ytmkhkkfliecfdaa.Pure
