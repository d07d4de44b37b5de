/- FnRangesFind: what Find tells of a range in the set of a list is the first of the parts that the reference tells, and what is left of the range; of an empty range itself, absent. No conditions. -/
import Derived.Test.YtmkhkkfliecfdaaPTx25
import Derived.Test.YtmkhkkfliecfdaaPureC
namespace Go.Proofs.Ytmkhkkfliecfdaa.Pure
open Go.RowKit Go.Proofs.Ytmkhkkfliecfdaa.PT Go.Proofs.YtmkhkkfliecfdaaW.PrintWords Go.Proofs.YtmkhkkfliecfdaaW.PrintLast Go.Proofs.Ytmkhkkfliecfdaa.Pl Go.Proofs.Ytmkhkkfliecfdaa.Given
set_option linter.unusedVariables false
set_option linter.unusedSimpArgs false

theorem FnRangesFind : laws_FnRangesFind.Pure := by
  intro l p s _ _ _
  refine (prelude (fun k b => laws_FnRangesFind.j0 k l b p s) (fun k => by simp [laws_FnRangesFind.j0]) fun hr hl hps hs0 => ?_).rounds
  have hF : impl_RangesFind.f l p s = some ((findP (setP (prs l)) (p, s)).1.1, (findP (setP (prs l)) (p, s)).1.2, (findP (setP (prs l)) (p, s)).2.1.1, (findP (setP (prs l)) (p, s)).2.1.2, (findP (setP (prs l)) (p, s)).2.2) := by
    unfold impl_RangesFind.f impl_given.f impl_told.f
    rw [inserted_law hr (by omega), Option.bind_some, Option.bind_some]
    simp only
    rw [find_law hr hl (near_ask hps)]
    simp only [Option.bind_some]
  refine Ev.step (fun k => by simp only [laws_FnRangesFind.j0]; exact if_neg (by decide)) (awake_then ?_)
  rw [hF]
  simp only [Option.bind_some]
  by_cases h0 : s = 0
  · subst h0
    refine Ev.congr (fun k => if_pos rfl) ?_
    rw [findP_none _ p 0 (by omega)]
    simp only [beq_self_eq_true, Bool.and_self, if_true, Bool.not_false]
    exact Ev.now true
  · refine Ev.congr (fun k => if_neg h0) ?_
    obtain ⟨x, P, h1, h2, h3, h4, h5, h6, h7, h8⟩ := parts_find hr hl hps (show 1 ≤ s by omega)
    have hf := found_law hr (p := p) (s := s) (by omega)
    generalize findP (setP (prs l)) (p, s) = F at *
    obtain ⟨c, n, b⟩ := F
    simp only at h4 h5 hf ⊢
    subst h4 h5
    have hx : rd_T31 (x :: P) 0 = x := by simp [rd_T31]
    refine Ev.bind h1 ?_
    rw [if_pos (by simp), hx]
    simp only [beq_self_eq_true, Bool.and_self, if_true]
    obtain ⟨p1, p2, p3, p4⟩ := hps
    simp only at p1 p2 p3 p4
    have hw : wrap64 (s - x.f0.f1) = s - x.f0.f1 := wrap64_id (by omega) (by omega)
    rw [hw]
    by_cases he : x.f0.f1 = s
    · rw [if_pos (by omega), if_pos (hf.last he)]
      exact Ev.now true
    · have hm := (hf.more (by simp only; omega)).2
      have hw2 : wrap64 (x.f0.f0 + x.f0.f1) = p + x.f0.f1 := by rw [h6]; exact wrap64_id (by omega) (by omega)
      rw [if_neg (by omega), if_pos (by omega), hw2, hm]
      simp only [beq_self_eq_true, Bool.and_self]
      exact Ev.now true
end Go.Proofs.Ytmkhkkfliecfdaa.Pure
