/- FnRangesPresent: a range is present in the set of a list just if all parts that the reference tells are. No conditions. -/
import Derived.Test.YtmkhkkfliecfdaaPTx36
import Derived.Test.YtmkhkkfliecfdaaPureP
namespace Go.Proofs.Ytmkhkkfliecfdaa.Pure
open Go.RowKit Go.Proofs.Ytmkhkkfliecfdaa.PT Go.Proofs.YtmkhkkfliecfdaaW.PrintWords Go.Proofs.YtmkhkkfliecfdaaW.PrintLast Go.Proofs.Ytmkhkkfliecfdaa.Pl Go.Proofs.Ytmkhkkfliecfdaa.Given
set_option linter.unusedVariables false
set_option linter.unusedSimpArgs false

theorem FnRangesPresent : laws_FnRangesPresent.Pure := by
  intro l p s _ _ _
  refine (prelude (fun k b => laws_FnRangesPresent.j0 k l b p s) (fun k => by simp [laws_FnRangesPresent.j0]) fun hr hl hps hs0 => ?_).rounds
  refine Ev.step (fun k => by simp only [laws_FnRangesPresent.j0]; exact if_neg (by decide)) (awake_then ?_)
  rw [present_law hr hl hps hs0]
  simp only [Option.bind_some]
  refine Ev.bind (specPresent_law hr hl hps hs0) ?_
  simp only [beq_self_eq_true]
  exact Ev.now true
end Go.Proofs.Ytmkhkkfliecfdaa.Pure
