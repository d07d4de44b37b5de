/- Plain facts on the printed functions of sets of ranges: the fewest ranges that have a list's bytes are the set of the list; lists that are the same. No conditions beyond those that each states. -/
import Derived.Test.YtmkhkkfliecfdaaPTx38
import Derived.Test.YtmkhkkfliecfdaaPTx39
import Derived.Test.YtmkhkkfliecfdaaPureB
namespace Go.Proofs.Ytmkhkkfliecfdaa.Pure
open Go.RowKit Go.Proofs.Ytmkhkkfliecfdaa.PT Go.Proofs.YtmkhkkfliecfdaaW.PrintWords Go.Proofs.YtmkhkkfliecfdaaW.PrintLast Go.Proofs.Ytmkhkkfliecfdaa.Pl Go.Proofs.Ytmkhkkfliecfdaa.Given
set_option linter.unusedVariables false
set_option linter.unusedSimpArgs false

def cutL (xs : List ((Int × Int) × Bool)) : List (Int × Int) := (xs.filter fun x => x.2).map fun x => x.1
theorem cut_abv : ∀ {h : Int → Prop} (xs : List ((Int × Int) × Bool)) {p q : Int}, Cov h p xs q → Abv (p - 1) (cutL xs) ∧ ((∀ y ∈ xs.head?, y.2 = false) → Abv p (cutL xs))
  | _, [], _, _, _ => ⟨trivial, fun _ => trivial⟩
  | h, x :: xs, p, q, ⟨a1, a2, a3, a4, a5⟩ => by
    obtain ⟨i1, i2⟩ := cut_abv xs a5
    cases hx : x.2 with
    | false =>
      have e : cutL (x :: xs) = cutL xs := by simp [cutL, hx]
      rw [e]
      exact ⟨i1.mono (by omega), fun _ => i1.mono (by omega)⟩
    | true =>
      have e : cutL (x :: xs) = x.1 :: cutL xs := by simp [cutL, hx]
      rw [e]
      have i3 := i2 (fun y hy => by have := a4 y hy; rw [hx] at this; simpa using this)
      refine ⟨⟨by omega, a2, ?_⟩, fun hf => ?_⟩
      · rw [a1]; exact i3
      · have := hf x rfl; rw [hx] at this; cases this
theorem cut_has : ∀ {h : Int → Prop} (xs : List ((Int × Int) × Bool)) {p q : Int}, Cov h p xs q → ∀ z, Has (cutL xs) z ↔ p ≤ z ∧ z < q ∧ h z
  | _, [], p, q, e, z => by simp only [Cov] at e; simp only [cutL, List.filter_nil, List.map_nil, Has, false_iff]; omega
  | h, x :: xs, p, q, ⟨a1, a2, a3, a4, a5⟩, z => by
    have ih := cut_has xs a5 z
    have hle := a5.le
    cases hx : x.2 with
    | false =>
      have e : cutL (x :: xs) = cutL xs := by simp [cutL, hx]
      rw [e, ih]
      constructor
      · rintro ⟨h1, h2, h3⟩; exact ⟨by omega, h2, h3⟩
      · rintro ⟨h1, h2, h3⟩
        refine ⟨?_, h2, h3⟩
        rcases Int.lt_or_le z (p + x.1.2) with hlt | hge
        · have := (a3 z ⟨by omega, by omega⟩).1 h3
          rw [hx] at this; cases this
        · exact hge
    | true =>
      have e : cutL (x :: xs) = x.1 :: cutL xs := by simp [cutL, hx]
      rw [e]
      show In x.1 z ∨ Has (cutL xs) z ↔ _
      rw [ih]
      constructor
      · rintro (hi | ⟨h1, h2, h3⟩)
        · exact ⟨by have := hi.1; omega, by have := hi.2; omega, (a3 z hi).2 hx⟩
        · exact ⟨by omega, h2, h3⟩
      · rintro ⟨h1, h2, h3⟩
        rcases Int.lt_or_le z (p + x.1.2) with hlt | hge
        · exact .inl ⟨by omega, by omega⟩
        · exact .inr ⟨hge, h2, h3⟩
/-! RangesCut -/
theorem cut_loop (P : List S31) (hP : P.length ≤ 200) : ∀ (d i : Nat) (out : List S24), i + d = P.length → out.length ≤ i →
    Ev (fun k => spec_RangesCut.l0 k out P (P.length : Int) (i : Int)) (out ++ (cutL ((P.drop i).map pr31)).map s24)
  | 0, i, out, h, ho => by
    rw [List.drop_eq_nil_of_le (by omega)]
    refine Ev.step (f := fun _ => some out) (fun k => by simp only [spec_RangesCut.l0]; rw [if_neg (by omega)]) ?_
    simp only [List.map_nil, cutL, List.filter_nil, List.append_nil]
    exact Ev.now _
  | d + 1, i, out, h, ho => by
    have hi : i < P.length := by omega
    rw [List.drop_eq_getElem_cons hi, List.map_cons]
    have hs : ∀ k, spec_RangesCut.l0 (k + 1) out P (P.length : Int) (i : Int) = if P[i].f1 = true then spec_RangesCut.l0 k (out ++ [(⟨P[i].f0.f0, P[i].f0.f1⟩ : S24)]) P (P.length : Int) ((i + 1 : Nat) : Int) else spec_RangesCut.l0 k out P (P.length : Int) ((i + 1 : Nat) : Int) := by
      intro k
      simp only [spec_RangesCut.l0]
      rw [if_pos (by omega), if_pos (by omega), if_pos (by omega), rd31 hi, w1 (by omega)]
      rw [if_pos (show out.length < 8796093022208 by omega)]
    cases hf : P[i].f1 with
    | false =>
      have e : cutL (pr31 P[i] :: (P.drop (i + 1)).map pr31) = cutL ((P.drop (i + 1)).map pr31) := by simp [cutL, pr31, hf]
      rw [e]
      exact Ev.step (fun k => by rw [hs, hf]; rfl) (cut_loop P hP d (i + 1) out (by omega) (by omega))
    | true =>
      have e : cutL (pr31 P[i] :: (P.drop (i + 1)).map pr31) = (P[i].f0.f0, P[i].f0.f1) :: cutL ((P.drop (i + 1)).map pr31) := by simp [cutL, pr31, hf]
      rw [e]
      have := cut_loop P hP d (i + 1) (out ++ [(⟨P[i].f0.f0, P[i].f0.f1⟩ : S24)]) (by omega) (by simp; omega)
      rw [List.append_assoc] at this
      exact Ev.step (fun k => by rw [hs, hf]; rfl) this
theorem whole_law {l : List S24} (hr : ∀ r ∈ l, rin r) (hl : l.length ≤ 60) : Ev (fun k => spec_RangesWhole.f k l) ((setP (prs l)).map s24) := by
  obtain ⟨s1, s2, s3, s4⟩ := set_law hr
  have hmk := rangeMarks_law l (by omega) (fun r h => rin_wide (hr r h))
  have hbig : ∀ r ∈ prs l, (-1099511627777 : Int) < r.1 := by
    intro r h
    obtain ⟨y, hy, rfl⟩ := List.mem_map.1 h
    have := (hr y hy).2.2.1
    simp only [p24]; omega
  obtain ⟨m1, m2⟩ := marks_law (prs l) (-1099511627777) [] hbig trivial
  have hm3 := fold_len (prs l) []
  have hin : ∀ z, z ∈ marksP (prs l) ↔ ∃ r ∈ prs l, 1 ≤ r.2 ∧ (z = r.1 ∨ z = r.1 + r.2) := by
    intro z
    rw [show z ∈ marksP (prs l) ↔ _ from m2 z]
    simp
  have hM : Rise (-1099511627777) (marksP (prs l)) := m1
  have hml : (marksP (prs l)).length ≤ 200 := by
    have h1 : (prs l).length ≤ 60 := by simpa [prs] using hl
    show (List.foldl _ [] _).length ≤ 200
    simp only [List.length_nil] at hm3
    omega
  have hbd : ∀ z ∈ marksP (prs l), -1099511627776 ≤ z ∧ z ≤ 2199023255552 := by
    intro z hz
    obtain ⟨r, hx, h1, h2⟩ := (hin z).1 hz
    obtain ⟨y, hy, rfl⟩ := List.mem_map.1 hx
    obtain ⟨r1, r2, r3, r4⟩ := hr y hy
    simp only [p24] at h1 h2
    rcases h2 with h2 | h2 <;> constructor <;> omega
  clear m1 m2 hm3
  have hunf : ∀ k, spec_RangesWhole.f k l = (spec_rangeMarks.f k l).bind fun t370 => (if (t370.length : Int) = 0 then (some ([] : List (S24))) else (if 0 < (t370.length : Int) then (if 0 ≤ (wrap64 ((t370.length : Int) - 1)) then (if (wrap64 ((t370.length : Int) - 1)) < (t370.length : Int) then ((spec_RangesCut.f k l (rd t370 0) (wrap64 ((rd t370 (wrap64 ((t370.length : Int) - 1))) - (rd t370 0)))).bind fun t375 => (some t375)) else (none)) else (none)) else (none))) := fun k => rfl
  refine Ev.congr hunf (Ev.bind hmk ?_)
  generalize marksP (prs l) = M at *
  by_cases h0 : M.length = 0
  · refine Ev.congr (fun k => if_pos (by omega)) ?_
    obtain rfl := List.length_eq_zero_iff.1 h0
    have he : setP (prs l) = [] := by
      refine abv_ext _ _ _ (-1099511627777) s1 trivial fun z => ?_
      rw [s2]
      simp only [Has, iff_false]
      rintro ⟨r, hx, h1, h2⟩
      have := (hin r.1).2 ⟨r, hx, by omega, .inl rfl⟩
      cases this
    rw [he]
    exact Ev.now _
  · have hl0 : 0 < M.length := by omega
    have hlast : M.length - 1 < M.length := by omega
    have ew : wrap64 ((M.length : Int) - 1) = ((M.length - 1 : Nat) : Int) := by rw [wrap64_id (by omega) (by omega)]; omega
    have b0 := hbd _ (List.getElem_mem hl0)
    have b1 := hbd _ (List.getElem_mem hlast)
    have hfirst : ∀ z ∈ M, M[0] ≤ z := by
      intro z hz
      obtain ⟨j, hj, rfl⟩ := List.getElem_of_mem hz
      by_cases hj0 : j = 0
      · subst hj0; exact Int.le_refl _
      · exact Int.le_of_lt (rise_get hM 0 j hl0 hj (by omega))
    have hend : ∀ z ∈ M, z ≤ M[M.length - 1] := fun z hz => rise_last hM (by omega) hz
    obtain ⟨r0, hx0, hr0, hr0'⟩ := (hin _).1 (List.getElem_mem hl0)
    have hlt : M[0] < M[M.length - 1] := by
      have k1 := hfirst _ ((hin r0.1).2 ⟨r0, hx0, hr0, .inl rfl⟩)
      have k2 := hend _ ((hin (r0.1 + r0.2)).2 ⟨r0, hx0, hr0, .inr rfl⟩)
      omega
    have ewd : wrap64 (M[M.length - 1] - M[0]) = M[M.length - 1] - M[0] := wrap64_id (by omega) (by omega)
    refine Ev.congr (f := fun k => spec_RangesCut.f k l M[0] (M[M.length - 1] - M[0])) (fun k => ?_) ?_
    · rw [if_neg (by omega), if_pos (by omega), ew, if_pos (by omega), if_pos (by omega), rdi hlast, show rd M 0 = M[0] from rdi hl0, ewd]
      cases spec_RangesCut.f k l M[0] (M[M.length - 1] - M[0]) <;> rfl
    · obtain ⟨P, h1, h2, h3⟩ := parts_law' hr hl (p := M[0]) (s := M[M.length - 1] - M[0]) (by omega) (by omega)
      have hc := cut_loop P h3 P.length 0 [] (by omega) (by simp)
      have he : setP (prs l) = cutL (P.map pr31) := by
        refine abv_ext _ _ _ _ s1 (cut_abv _ h2).1 fun z => ?_
        rw [s2, cut_has _ h2]
        constructor
        · rintro ⟨r, hx, k1, k2⟩
          have e1 := hfirst _ ((hin r.1).2 ⟨r, hx, by omega, .inl rfl⟩)
          have e2 := hend _ ((hin (r.1 + r.2)).2 ⟨r, hx, by omega, .inr rfl⟩)
          exact ⟨by omega, by omega, ⟨r, hx, k1, k2⟩⟩
        · rintro ⟨_, _, h⟩; exact h
      rw [he]
      exact Ev.bind h1 (by simpa using hc)
/-! RangesSame -/
theorem same_loop (A B : List S24) (hA : A.length ≤ 200000) (hAB : A.length = B.length) : ∀ (d i : Nat), i + d = A.length →
    Ev (fun k => spec_RangesSame.l0 k A B (A.length : Int) (i : Int)) (decide ((A.drop i).map p24 = (B.drop i).map p24))
  | 0, i, h => by
    rw [List.drop_eq_nil_of_le (by omega), List.drop_eq_nil_of_le (by omega)]
    exact Ev.step (f := fun _ => some true) (fun k => by simp only [spec_RangesSame.l0]; rw [if_neg (by omega)]) (Ev.now _)
  | d + 1, i, h => by
    have hi : i < A.length := by omega
    have hj : i < B.length := by omega
    rw [List.drop_eq_getElem_cons hi, List.drop_eq_getElem_cons hj, List.map_cons, List.map_cons]
    have hs : ∀ k, spec_RangesSame.l0 (k + 1) A B (A.length : Int) (i : Int) = if (!(A[i].f0 == B[i].f0) || (!(A[i].f1 == B[i].f1))) = true then some false else spec_RangesSame.l0 k A B (A.length : Int) ((i + 1 : Nat) : Int) := by
      intro k
      simp only [spec_RangesSame.l0]
      rw [if_pos (by omega), if_pos (by omega), if_pos (by omega), if_pos (by omega), rd24 hi, rd24 hj, w1 (by omega)]
    by_cases he : p24 A[i] = p24 B[i]
    · have hc : (!(A[i].f0 == B[i].f0) || (!(A[i].f1 == B[i].f1))) = false := by
        simp only [p24, Prod.mk.injEq] at he; simp [he.1, he.2]
      rw [he]
      simp only [List.cons.injEq, true_and]
      exact Ev.step (fun k => by rw [hs, hc]; rfl) (same_loop A B hA hAB d (i + 1) (by omega))
    · have hc : (!(A[i].f0 == B[i].f0) || (!(A[i].f1 == B[i].f1))) = true := by
        simp only [p24, Prod.mk.injEq] at he
        by_cases h1 : A[i].f0 = B[i].f0
        · have h2 : ¬ A[i].f1 = B[i].f1 := fun h2 => he ⟨h1, h2⟩
          simp [h2]
        · simp [h1]
      rw [decide_eq_false (by intro h; exact he (List.cons.inj h).1)]
      exact Ev.step (f := fun _ => some false) (fun k => by rw [hs, hc]; rfl) (Ev.now _)
theorem same_law (A B : List (Int × Int)) (hA : A.length ≤ 200000) : Ev (fun k => spec_RangesSame.f k (A.map s24) (B.map s24)) (decide (A = B)) := by
  by_cases hl : A.length = B.length
  · have h := same_loop (A.map s24) (B.map s24) (by simpa using hA) (by simpa using hl) (A.map s24).length 0 (by omega)
    rw [List.drop_zero, List.drop_zero, show (A.map s24).map p24 = A by simp [Function.comp_def, p_s24], show (B.map s24).map p24 = B by simp [Function.comp_def, p_s24]] at h
    refine Ev.congr (fun k => ?_) h
    simp only [spec_RangesSame.f]
    rw [if_pos (by simp [hl])]
    rfl
  · rw [decide_eq_false (by rintro rfl; exact hl rfl)]
    refine Ev.congr (f := fun _ => some false) (fun k => ?_) (Ev.now _)
    simp only [spec_RangesSame.f]
    rw [if_neg (by simp; omega)]
theorem equal_law {l m : List S24} (hl : ∀ r ∈ l, rin r) (hm : ∀ r ∈ m, rin r) (h1 : l.length ≤ 90000) (h2 : m.length ≤ 90000) : impl_RangesEqual.f l m = some (decide (setP (prs l) = setP (prs m))) := by
  unfold impl_RangesEqual.f ranges_Equal.f
  rw [inserted_law hl h1, inserted_law hm h2]
  simp only [Option.bind_some, Option.some.injEq]
  rw [Bool.eq_iff_iff, same48_iff, map_ps, map_ps, decide_eq_true_iff]
end Go.Proofs.Ytmkhkkfliecfdaa.Pure
