/- Plain facts on the printed functions of sets of ranges: when a range is present. No conditions beyond those that each states. -/
import Derived.Test.YtmkhkkfliecfdaaPTx34
import Derived.Test.YtmkhkkfliecfdaaPTx35
import Derived.Test.YtmkhkkfliecfdaaPureC
namespace Go.Proofs.Ytmkhkkfliecfdaa.Pure
open Go.RowKit Go.Proofs.Ytmkhkkfliecfdaa.PT Go.Proofs.YtmkhkkfliecfdaaW.PrintWords Go.Proofs.YtmkhkkfliecfdaaW.PrintLast Go.Proofs.Ytmkhkkfliecfdaa.Pl Go.Proofs.Ytmkhkkfliecfdaa.Given
set_option linter.unusedVariables false
set_option linter.unusedSimpArgs false

/-- present: it is empty, or its first part is there and is all of it -/
def presB (l : List S24) (p s : Int) : Bool := decide (s ≤ 0) || ((findP (setP (prs l)) (p, s)).2.2 && decide ((findP (setP (prs l)) (p, s)).1.2 = s))
theorem present_law {l : List S24} (hr : ∀ r ∈ l, rin r) (hl : l.length ≤ 60) {p s : Int} (hps : rin ⟨p, s⟩) (hs0 : 0 ≤ s) : impl_RangesPresent.f l p s = some (presB l p s) := by
  unfold impl_RangesPresent.f impl_given.f ranges_Ranges_Present.f ranges_Range_IsEmpty.f
  rw [inserted_law hr (by omega), Option.bind_some, Option.bind_some, Option.bind_some]
  unfold presB
  by_cases h0 : s ≤ 0
  · simp only [decide_eq_true h0, if_true, Bool.true_or, Option.bind_some]
  · simp only [decide_eq_false h0, Bool.false_eq_true, if_false, Bool.false_or]
    rw [find_law hr hl (near_ask hps)]
    have hf := found_law hr (p := p) (s := s) (by omega)
    generalize findP (setP (prs l)) (p, s) = F at *
    obtain ⟨c, n, b⟩ := F
    simp only at hf
    simp only [Option.bind_some]
    cases b with
    | false => rfl
    | true =>
      simp only [if_true, Bool.true_and]
      by_cases he : c.2 = s
      · have := hf.last he
        simp only [he, decide_true]
        rw [decide_eq_true (by omega), if_pos rfl]
        rfl
      · have hle := hf.le
        simp only at hle
        have hm := (hf.more (by simp only; omega)).2
        rw [hm]
        simp only [he, decide_false]
        rw [decide_eq_false (by omega), if_neg (by decide)]
        rfl
theorem pres_loop (P : List S31) (hP : P.length ≤ 200) : ∀ (d i : Nat), i + d = P.length → Ev (fun k => spec_RangesPresent.l0 k P (P.length : Int) (i : Int)) ((P.drop i).all fun x => x.f1)
  | 0, i, h => by
    rw [List.drop_eq_nil_of_le (by omega)]
    exact Ev.step (f := fun _ => some true) (fun k => by simp only [spec_RangesPresent.l0]; rw [if_neg (by omega)]) (Ev.now _)
  | d + 1, i, h => by
    have hi : i < P.length := by omega
    rw [List.drop_eq_getElem_cons hi, List.all_cons]
    have hs : ∀ k, spec_RangesPresent.l0 (k + 1) P (P.length : Int) (i : Int) = if P[i].f1 = true then spec_RangesPresent.l0 k P (P.length : Int) ((i + 1 : Nat) : Int) else some false := by
      intro k
      simp only [spec_RangesPresent.l0]
      rw [if_pos (by omega), if_pos (by omega), if_pos (by omega), rd31 hi, w1 (by omega)]
    cases hf : P[i].f1 with
    | false => exact Ev.step (f := fun _ => some false) (fun k => by rw [hs, hf]; rfl) (Ev.now _)
    | true => exact Ev.step (fun k => by rw [hs, hf]; rfl) (pres_loop P hP d (i + 1) (by omega))
theorem specPresent_law {l : List S24} (hr : ∀ r ∈ l, rin r) (hl : l.length ≤ 60) {p s : Int} (hps : rin ⟨p, s⟩) (hs0 : 0 ≤ s) : Ev (fun k => spec_RangesPresent.f k l p s) (presB l p s) := by
  by_cases h0 : s = 0
  · subst h0
    have hp : ∀ k, spec_RangeParts.f k l p 0 = some [] := fun k => by simp only [spec_RangeParts.f]; rw [if_pos (by omega)]
    have := pres_loop [] (by simp) 0 0 rfl
    refine Ev.congr (fun k => ?_) this
    simp only [spec_RangesPresent.f]
    rw [hp, Option.bind_some]
    rfl
  · obtain ⟨x, P, h1, h2, h3, h4, h5, h6, h7, h8⟩ := parts_find hr hl hps (show 1 ≤ s by omega)
    have h := pres_loop (x :: P) h3 (x :: P).length 0 (by omega)
    have he : presB l p s = ((x :: P).drop 0).all fun x => x.f1 := by
      unfold presB
      rw [decide_eq_false (by omega), Bool.false_or, h4, h5, List.drop_zero, List.all_cons]
      simp only
      cases hx : x.f1 with
      | false => simp
      | true =>
        simp only [Bool.true_and]
        obtain ⟨a1, a2, a3, a4, a5⟩ := (show Cov (Byte l) p (pr31 x :: P.map pr31) (p + s) from h2)
        simp only [pr31] at a5
        cases P with
        | nil =>
          simp only [List.map_nil, Cov] at a5
          simp only [List.all_nil]
          exact decide_eq_true (by omega)
        | cons y ys =>
          have hy : y.f1 ≠ x.f1 := a4 (pr31 y) rfl
          have hyf : y.f1 = false := by rw [hx] at hy; simpa using hy
          obtain ⟨b1, b2, b3, b4, b5⟩ := (show Cov (Byte l) (p + x.f0.f1) (pr31 y :: ys.map pr31) (p + s) from a5)
          have := b5.le
          simp only [pr31] at b2 this
          rw [List.all_cons, hyf, Bool.false_and]
          exact decide_eq_false (by omega)
    rw [he]
    exact Ev.bind h1 h
end Go.Proofs.Ytmkhkkfliecfdaa.Pure
