/- FnRangesEqual: two lists' sets are equal just if the fewest ranges with their bytes are the same. No conditions. -/
import Derived.Test.YtmkhkkfliecfdaaPTx40
import Derived.Test.YtmkhkkfliecfdaaPureC
import Derived.Test.YtmkhkkfliecfdaaPureW
namespace Go.Proofs.Ytmkhkkfliecfdaa.Pure
open Go.RowKit Go.Proofs.Ytmkhkkfliecfdaa.PT Go.Proofs.YtmkhkkfliecfdaaW.PrintWords Go.Proofs.YtmkhkkfliecfdaaW.PrintLast Go.Proofs.Ytmkhkkfliecfdaa.Pl Go.Proofs.Ytmkhkkfliecfdaa.Given
set_option linter.unusedVariables false
set_option linter.unusedSimpArgs false

theorem FnRangesEqual_main {l m : List S24} (hl : ∀ r ∈ l, rin r) (hll : l.length ≤ 60) (hm : ∀ r ∈ m, rin r) (hml : m.length ≤ 60) :
    Ev (fun k => laws_FnRangesEqual.j1 k l m false) true := by
  refine Ev.step (fun k => by simp only [laws_FnRangesEqual.j1]; exact if_neg (by decide)) (awake_then ?_)
  refine Ev.bind (whole_law hl hll) (Ev.bind (whole_law hm hml) (Ev.bind (same_law _ _ ?_) ?_))
  · have := (set_law hl).2.2.2; omega
  · rw [equal_law hl hm (by omega) (by omega), equal_law hm hl (by omega) (by omega), equal_law hl hl (by omega) (by omega)]
    simp only [Option.bind_some]
    have e : decide (setP (prs m) = setP (prs l)) = decide (setP (prs l) = setP (prs m)) := by simp only [eq_comm]
    rw [e]
    simp only [beq_self_eq_true, if_true, decide_true]
    exact Ev.now true
theorem FnRangesEqual : laws_FnRangesEqual.Pure := by
  intro l m _ _ _ _
  have sk1 : Ev (fun k => laws_FnRangesEqual.j1 k l m true) true := Ev.step (f := fun _ => some true) (fun k => by simp [laws_FnRangesEqual.j1]) (Ev.now _)
  have sk0 : Ev (fun k => laws_FnRangesEqual.j0 k l m true) true := Ev.step (f := fun _ => some true) (fun k => by simp [laws_FnRangesEqual.j0]) (Ev.now _)
  suffices h : Ev (fun k => laws_FnRangesEqual.f k l m) true from h.rounds
  by_cases h1 : (l.length : Int) > 2147483647
  · exact Ev.congr (fun k => by simp only [laws_FnRangesEqual.f]; exact if_pos h1) sk0
  · refine Ev.congr (f := fun k => laws_FnRangesEqual.j0 k l m (decide ((m.length : Int) > 2147483647))) (fun k => by simp only [laws_FnRangesEqual.f]; exact if_neg h1) ?_
    by_cases h2 : (m.length : Int) > 2147483647
    · rw [decide_eq_true h2]; exact sk0
    · rw [decide_eq_false h2]
      refine Ev.step (fun k => by simp only [laws_FnRangesEqual.j0]; exact if_neg (by decide)) ?_
      obtain ⟨a, ha, ha'⟩ := rangesIn_law l (by omega)
      refine Ev.bind ha ?_
      cases a with
      | false => exact Ev.congr (fun k => if_neg (by decide)) sk1
      | true =>
        obtain ⟨a1, a2⟩ := ha' rfl
        refine Ev.congr (fun k => if_pos rfl) ?_
        obtain ⟨b, hb, hb'⟩ := rangesIn_law m (by omega)
        refine Ev.bind hb ?_
        cases b with
        | false => exact sk1
        | true =>
          obtain ⟨b1, b2⟩ := hb' rfl
          exact FnRangesEqual_main a1 a2 b1 b2
end Go.Proofs.Ytmkhkkfliecfdaa.Pure
