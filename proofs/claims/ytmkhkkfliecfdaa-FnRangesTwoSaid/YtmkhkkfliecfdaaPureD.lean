/- Plain facts on the printed functions of sets of ranges: what a set tells. No conditions beyond those that each states. -/
import Derived.Test.YtmkhkkfliecfdaaPureA
namespace Go.Proofs.Ytmkhkkfliecfdaa.Pure.D
open Go.RowKit Go.Proofs.Ytmkhkkfliecfdaa.PT Go.Proofs.YtmkhkkfliecfdaaW.PrintWords Go.Proofs.YtmkhkkfliecfdaaW.PrintLast Go.Proofs.Ytmkhkkfliecfdaa.Pl Go.Proofs.Ytmkhkkfliecfdaa.Given Go.Proofs.Ytmkhkkfliecfdaa.Pure
set_option linter.unusedVariables false
set_option linter.unusedSimpArgs false

theorem rd48 {l : List S48} {i : Nat} (h : i < l.length) : rd_T48 l (i : Int) = l[i] := by simp [rd_T48, h]
theorem told_law {x : S48} : impl_told.f x.f0 x.f1 = some (x.f0, x.f1) := rfl
theorem tell_loop (L : List S48) (hl : L.length ≤ 90000) : ∀ (d i : Nat) (out : List S24), i + d = L.length → out.length ≤ i →
    Ev (fun k => impl_tellAll.l0 k out L (L.length : Int) (i : Int)) (out ++ (L.drop i).map fun x => (⟨x.f0, x.f1⟩ : S24))
  | 0, i, out, h, ho => by
    rw [List.drop_eq_nil_of_le (by omega)]
    refine Ev.step (f := fun _ => some out) (fun k => by simp only [impl_tellAll.l0]; rw [if_neg (by omega)]) ?_
    simp only [List.map_nil, List.append_nil]
    exact Ev.now _
  | d + 1, i, out, h, ho => by
    have hi : i < L.length := by omega
    rw [List.drop_eq_getElem_cons hi, List.map_cons]
    have hs : ∀ k, impl_tellAll.l0 (k + 1) out L (L.length : Int) (i : Int) = impl_tellAll.l0 k (out ++ [(⟨L[i].f0, L[i].f1⟩ : S24)]) L (L.length : Int) ((i + 1 : Nat) : Int) := by
      intro k
      simp only [impl_tellAll.l0]
      rw [if_pos (by omega), if_pos (by omega), if_pos (by omega), rd48 hi, told_law, Option.bind_some, w1 (by omega)]
      rw [if_pos (show out.length < 8796093022208 by omega)]
    have := tell_loop L hl d (i + 1) (out ++ [(⟨L[i].f0, L[i].f1⟩ : S24)]) (by omega) (by simp; omega)
    rw [List.append_assoc] at this
    exact Ev.step hs this
theorem of_law {l : List S24} (hr : ∀ r ∈ l, rin r) (hl : l.length ≤ 90000) : Ev (fun k => impl_RangesOf.f k l) ((setP (prs l)).map s24) := by
  obtain ⟨s1, s2, s3, s4⟩ := set_law hr
  have h := tell_loop ((setP (prs l)).map s48) (by simp; omega) ((setP (prs l)).map s48).length 0 [] (by omega) (by simp)
  have e : ([] : List S24) ++ (((setP (prs l)).map s48).drop 0).map (fun x => (⟨x.f0, x.f1⟩ : S24)) = (setP (prs l)).map s24 := by
    simp [Function.comp_def, s48, s24]
  rw [e] at h
  refine Ev.congr (fun k => ?_) h
  simp only [impl_RangesOf.f]
  rw [inserted_law hr hl, Option.bind_some]
  show (impl_tellAll.f k _).bind _ = _
  simp only [impl_tellAll.f]
  cases impl_tellAll.l0 k [] ((setP (prs l)).map s48) (((setP (prs l)).map s48).length : Int) 0 <;> rfl
end Go.Proofs.Ytmkhkkfliecfdaa.Pure.D
