/- Plain facts on the printed functions of sets of ranges: the parts of a range cover it, by turns present or not. No conditions beyond those that each states. -/
import Derived.Test.YtmkhkkfliecfdaaPTx24
import Derived.Test.YtmkhkkfliecfdaaPureA
namespace Go.Proofs.Ytmkhkkfliecfdaa.Pure
open Go.RowKit Go.Proofs.Ytmkhkkfliecfdaa.PT Go.Proofs.YtmkhkkfliecfdaaW.PrintWords Go.Proofs.YtmkhkkfliecfdaaW.PrintLast Go.Proofs.Ytmkhkkfliecfdaa.Pl Go.Proofs.Ytmkhkkfliecfdaa.Given
set_option linter.unusedVariables false
set_option linter.unusedSimpArgs false

def pr31 (x : S31) : (Int × Int) × Bool := ((x.f0.f0, x.f0.f1), x.f1)
theorem rise_get : ∀ {M : List Int} {q : Int}, Rise q M → ∀ (i j : Nat) (hi : i < M.length) (hj : j < M.length), i < j → M[i] < M[j]
  | [], _, _, i, j, hi, _, _ => by simp at hi
  | x :: M, q, ⟨h1, h2⟩, i, j, hi, hj, hij => by
    cases j with
    | zero => omega
    | succ j =>
      cases i with
      | zero => exact h2.lt (List.getElem_mem (by simpa using hj))
      | succ i => exact rise_get h2 i j (by simpa using hi) (by simpa using hj) (by omega)
theorem rise_next {M : List Int} {q : Int} (h : Rise q M) {i : Nat} (hi : i + 1 < M.length) {z : Int} (hz : z ∈ M) : z ≤ M[i]'(by omega) ∨ M[i + 1] ≤ z := by
  obtain ⟨j, hj, rfl⟩ := List.getElem_of_mem hz
  rcases Nat.lt_trichotomy j i with h1 | h1 | h1
  · exact .inl (Int.le_of_lt (rise_get h j i hj (by omega) h1))
  · subst h1; exact .inl (Int.le_refl _)
  · by_cases h2 : j = i + 1
    · subst h2; exact .inr (Int.le_refl _)
    · exact .inr (Int.le_of_lt (rise_get h (i + 1) j hi hj (by omega)))
theorem rise_last {M : List Int} {q : Int} (h : Rise q M) {i : Nat} (hi : i + 1 = M.length) {z : Int} (hz : z ∈ M) : z ≤ M[i]'(by omega) := by
  obtain ⟨j, hj, rfl⟩ := List.getElem_of_mem hz
  by_cases h1 : j = i
  · subst h1; exact Int.le_refl _
  · exact Int.le_of_lt (rise_get h j i hj (by omega) (by omega))
theorem fold_len : ∀ (l : List (Int × Int)) (out : List Int), (l.foldl (fun out r => if r.2 < 1 then out else insM (insM out r.1) (r.1 + r.2)) out).length ≤ out.length + 2 * l.length
  | [], out => by simp
  | r :: l, out => by
    simp only [List.foldl_cons, List.length_cons]
    have h := fold_len l (if r.2 < 1 then out else insM (insM out r.1) (r.1 + r.2))
    have h1 : (if r.2 < 1 then out else insM (insM out r.1) (r.1 + r.2)).length ≤ out.length + 2 := by
      split
      · omega
      · have b1 := insM_len out r.1
        have b2 := insM_len (insM out r.1) (r.1 + r.2)
        omega
    omega
theorem cov_last : ∀ {h : Int → Prop} {xs : List ((Int × Int) × Bool)} {p q : Int} {x : (Int × Int) × Bool}, Cov h p (xs ++ [x]) q → p ≤ x.1.1 ∧ x.1.1 + x.1.2 = q ∧ 1 ≤ x.1.2
  | _, [], p, q, x, ⟨a1, a2, a3, a4, a5⟩ => by
    simp only [Cov] at a5
    exact ⟨by omega, by omega, a2⟩
  | h, y :: ys, p, q, x, ⟨a1, a2, a3, a4, a5⟩ => by
    obtain ⟨b1, b2, b3⟩ := cov_last a5
    exact ⟨by omega, b2, b3⟩
def clamp (p e c : Int) : Int := if c ≤ p then p else if e ≤ c then e else c

section
variable {l : List S24} (hr : ∀ r ∈ l, rin r) (hl : l.length ≤ 60) {p s : Int} (hps : -1099511627776 ≤ p ∧ p + s ≤ 2199023255552) (hs : 1 ≤ s) {M : List Int} (hM : Rise (-1099511627777) M) (hml : M.length ≤ 200)
  (hin : ∀ z, z ∈ M ↔ (∃ r ∈ prs l, 1 ≤ r.2 ∧ (z = r.1 ∨ z = r.1 + r.2)) ∨ z = p ∨ z = p + s)
include hr hl hps hs hM hml hin
theorem marks_bound {z : Int} (hz : z ∈ M) : -1099511627776 ≤ z ∧ z ≤ 2199023255552 := by
  have _ := hl; have _ := hs; have _ := hM; have _ := hml
  obtain ⟨p1, p2⟩ := hps
  rcases (hin z).1 hz with ⟨r, hx, h1, h2⟩ | h | h
  · obtain ⟨y, hy, rfl⟩ := List.mem_map.1 hx
    obtain ⟨r1, r2, r3, r4⟩ := hr y hy
    simp only [p24] at h1 h2
    rcases h2 with h2 | h2 <;> constructor <;> omega
  · constructor <;> omega
  · constructor <;> omega
theorem const_law {i : Nat} (hi : i + 1 < M.length) {z : Int} (h1 : M[i]'(by omega) ≤ z) (h2 : z < M[i + 1]) : Byte l z ↔ Byte l (M[i]'(by omega)) := by
  have _ := hl; have _ := hs; have _ := hM; have _ := hml; have _ := hr; have _ := hps
  constructor
  · rintro ⟨r, hx, h3, h4⟩
    refine ⟨r, hx, ?_, by omega⟩
    have hz : r.1 ∈ M := (hin _).2 (.inl ⟨r, hx, by omega, .inl rfl⟩)
    rcases rise_next hM hi hz with h | h <;> omega
  · rintro ⟨r, hx, h3, h4⟩
    refine ⟨r, hx, by omega, ?_⟩
    have hz : r.1 + r.2 ∈ M := (hin _).2 (.inl ⟨r, hx, by omega, .inr rfl⟩)
    rcases rise_next hM hi hz with h | h <;> omega
theorem parts_loop : ∀ (d i : Nat) (out : List S31) (hd : i + 1 + d = M.length), Cov (Byte l) p (out.map pr31) (clamp p (p + s) (M[i]'(by omega))) → out.length ≤ i →
    ∃ P, Ev (fun k => spec_RangeParts.l0 k l out M (i : Int) p s) P ∧ Cov (Byte l) p (P.map pr31) (p + s) ∧ P.length ≤ 200
  | 0, i, out, hd, hc, ho => by
    refine ⟨out, Ev.step (f := fun _ => some out) (fun k => ?_) (Ev.now _), ?_, by omega⟩
    · simp only [spec_RangeParts.l0]
      rw [w1 (by omega), if_neg (by omega)]
    · have hz : p + s ∈ M := (hin _).2 (.inr (.inr rfl))
      have := rise_last hM (i := i) (by omega) hz
      rwa [show clamp p (p + s) (M[i]'(by omega)) = p + s by unfold clamp; rw [if_neg (by omega), if_pos this]] at hc
  | d + 1, i, out, hd, hc, ho => by
    have hi : i + 1 < M.length := by omega
    have hi0 : i < M.length := by omega
    have hlt := rise_get hM i (i + 1) hi0 hi (by omega)
    have hb1 := marks_bound hr hl hps hs hM hml hin (List.getElem_mem hi0)
    have hb2 := marks_bound hr hl hps hs hM hml hin (List.getElem_mem hi)
    have hp : p ∈ M := (hin _).2 (.inr (.inl rfl))
    have hq : p + s ∈ M := (hin _).2 (.inr (.inr rfl))
    have hnp := rise_next hM hi hp
    have hnq := rise_next hM hi hq
    have hcon := fun z => const_law hr hl hps hs hM hml hin hi (z := z)
    obtain ⟨p1, p2⟩ := hps
    have ih := parts_loop d (i + 1)
    have hw : wrap64 (p + s) = p + s := wrap64_id (by omega) (by omega)
    have hstep : ∀ k, spec_RangeParts.l0 (k + 1) l out M (i : Int) p s = if M[i] < p then spec_RangeParts.j1 k l out M (i : Int) M[i] M[i + 1] true p s else spec_RangeParts.j1 k l out M (i : Int) M[i] M[i + 1] (decide (M[i + 1] > p + s)) p s := by
      intro k
      simp only [spec_RangeParts.l0]
      rw [w1 (by omega), if_pos (by omega), if_pos (by omega), if_pos (by omega), if_pos (by omega), rdi hi0, rdi hi, hw]
    have hskip : clamp p (p + s) M[i + 1] = clamp p (p + s) M[i] → ∃ P, Ev (fun k => spec_RangeParts.j1 k l out M (i : Int) M[i] M[i + 1] true p s) P ∧ Cov (Byte l) p (P.map pr31) (p + s) ∧ P.length ≤ 200 := by
      intro he
      obtain ⟨P, h1, h2⟩ := ih out (by omega) (by rw [he]; exact hc) (by omega)
      refine ⟨P, Ev.step (fun k => ?_) h1, h2⟩
      simp only [spec_RangeParts.j1]
      rw [if_pos trivial, w1 (by omega)]
    by_cases c1 : M[i] < p
    · obtain ⟨P, h1, h2⟩ := hskip (by unfold clamp; rw [if_pos (by omega), if_pos (by omega)])
      exact ⟨P, Ev.step (fun k => by rw [hstep, if_pos c1]) h1, h2⟩
    · by_cases c2 : M[i + 1] > p + s
      · obtain ⟨P, h1, h2⟩ := hskip (by unfold clamp; rw [if_neg (by omega), if_pos (by omega), if_neg (by omega), if_pos (by omega)])
        exact ⟨P, Ev.step (fun k => by rw [hstep, if_neg c1, decide_eq_true c2]) h1, h2⟩
      · have ec : clamp p (p + s) M[i] = M[i] := by unfold clamp; by_cases h : M[i] ≤ p <;> simp [h] <;> omega
        have et : clamp p (p + s) M[i + 1] = M[i + 1] := by unfold clamp; rw [if_neg (by omega)]; by_cases h : p + s ≤ M[i + 1] <;> simp [h] <;> omega
        rw [ec] at hc
        obtain ⟨b, hb, hbi⟩ := rangeHas_law hr (by omega) (z := M[i]) (by omega)
        have hwn : wrap64 (M[i + 1] - M[i]) = M[i + 1] - M[i] := wrap64_id (by omega) (by omega)
        have hsame : ∀ z, M[i] ≤ z → z < M[i] + (M[i + 1] - M[i]) → (Byte l z ↔ b = true) := fun z h1 h2 => (hcon z h1 (by omega)).trans hbi.symm
        have key : ∃ o2 : List S31, (∀ k, spec_RangeParts.j1 (k + 1) l out M (i : Int) M[i] M[i + 1] false p s = (spec_RangeHas.f k l M[i]).bind fun t => if t = b then spec_RangeParts.l0 k l o2 M ((i + 1 : Nat) : Int) p s else spec_RangeParts.j1 (k + 1) l out M (i : Int) M[i] M[i + 1] false p s) ∧ Cov (Byte l) p (o2.map pr31) M[i + 1] ∧ o2.length ≤ i + 1 := by
          have happ : (∀ y ∈ (out.map pr31).getLast?, y.2 ≠ b) → Cov (Byte l) p ((out ++ [(⟨⟨M[i], M[i + 1] - M[i]⟩, b⟩ : S31)]).map pr31) M[i + 1] := by
            intro hne
            rw [List.map_append]
            have := hc.snoc (x := ((M[i], M[i + 1] - M[i]), b)) rfl (by simp only; omega) (fun z hz => hsame z hz.1 hz.2) hne
            rwa [show M[i] + ((M[i], M[i + 1] - M[i]), b).1.2 = M[i + 1] by simp only; omega] at this
          rcases List.eq_nil_or_concat out with rfl | ⟨init, x, rfl⟩
          · refine ⟨[(⟨⟨M[i], M[i + 1] - M[i]⟩, b⟩ : S31)], fun k => ?_, happ (by simp), by simp⟩
            simp only [spec_RangeParts.j1]
            rw [if_neg (by decide)]
            cases hH : spec_RangeHas.f k l M[i] with
            | none => rfl
            | some t =>
              simp only [Option.bind_some]
              by_cases ht : t = b
              · subst ht
                rw [if_pos rfl, if_neg (by simp), if_pos (by simp), hwn, w1 (by omega)]
                rfl
              · rw [if_neg ht]
          · simp only [List.concat_eq_append] at *
            have hcl := cov_last (by simpa using hc : Cov (Byte l) p (init.map pr31 ++ [pr31 x]) M[i])
            simp only [pr31] at hcl
            have elen : ((init ++ [x]).length : Int) - 1 = (init.length : Int) := by simp
            have ew : wrap64 (((init ++ [x]).length : Int) - 1) = (init.length : Int) := by rw [elen, wrap64_id (by omega) (by simp at ho; omega)]
            have erd : rd_T31 (init ++ [x]) (init.length : Int) = x := by simp [rd_T31]
            have hsz : wrap64 (x.f0.f1 + (M[i + 1] - M[i])) = x.f0.f1 + (M[i + 1] - M[i]) := wrap64_id (by omega) (by omega)
            by_cases hx : x.f1 = b
            · refine ⟨init ++ [(⟨⟨x.f0.f0, x.f0.f1 + (M[i + 1] - M[i])⟩, x.f1⟩ : S31)], fun k => ?_, ?_, by simpa using Nat.le_trans ho (Nat.le_succ i)⟩
              · simp only [spec_RangeParts.j1]
                rw [if_neg (by decide)]
                cases hH : spec_RangeHas.f k l M[i] with
                | none => rfl
                | some t =>
                  simp only [Option.bind_some]
                  by_cases ht : t = b
                  · subst ht
                    rw [if_pos rfl, if_pos (by first | (simp; done) | (simp; omega)), ew, if_pos (by omega), if_pos (by first | (simp; done) | (simp; omega)), erd, hwn, hsz, if_pos (by simp [hx]), w1 (by omega)]
                    simp [List.set_append]
                  · rw [if_neg ht]
              · rw [List.map_append]
                have := Cov.longer (x := pr31 x) (n := M[i + 1] - M[i]) (by simpa using hc : Cov (Byte l) p (init.map pr31 ++ [pr31 x]) M[i]) (by omega) (fun z h1 h2 => by rw [hsame z h1 h2]; simp [pr31, hx])
                rw [show M[i] + (M[i + 1] - M[i]) = M[i + 1] by omega] at this
                exact this
            · refine ⟨(init ++ [x]) ++ [(⟨⟨M[i], M[i + 1] - M[i]⟩, b⟩ : S31)], fun k => ?_, happ (by simp [pr31, hx]), by simp at ho ⊢; omega⟩
              simp only [spec_RangeParts.j1]
              rw [if_neg (by decide)]
              cases hH : spec_RangeHas.f k l M[i] with
              | none => rfl
              | some t =>
                simp only [Option.bind_some]
                by_cases ht : t = b
                · subst ht
                  rw [if_pos rfl, if_pos (by first | (simp; done) | (simp; omega)), ew, if_pos (by omega), if_pos (by first | (simp; done) | (simp; omega)), erd, hwn, if_neg (by simp [hx]), w1 (by omega), if_pos (by simp at ho ⊢; omega)]
                · rw [if_neg ht]
        obtain ⟨o2, k1, k2, k3⟩ := key
        obtain ⟨P, h1, h2⟩ := ih o2 (by omega) (by rw [et]; exact k2) k3
        refine ⟨P, Ev.step (fun k => by rw [hstep, if_neg c1, decide_eq_false c2]) (?_ : Ev (fun k => spec_RangeParts.j1 k l out M (i : Int) M[i] M[i + 1] false p s) P), h2⟩
        refine Ev.step (fun k => k1 k) (Ev.bind hb (Ev.congr (fun k => ?_) h1))
        simp only
        rw [if_pos trivial]
end
theorem parts_law' {l : List S24} (hr : ∀ r ∈ l, rin r) (hl : l.length ≤ 60) {p s : Int} (hps : -1099511627776 ≤ p ∧ p + s ≤ 2199023255552) (hs : 1 ≤ s) :
    ∃ P, Ev (fun k => spec_RangeParts.f k l p s) P ∧ Cov (Byte l) p (P.map pr31) (p + s) ∧ P.length ≤ 200 := by
  have hr' : ∀ r ∈ l ++ [(⟨p, s⟩ : S24)], wide r ∧ -1099511627776 ≤ r.f0 := by
    intro r h
    rcases List.mem_append.1 h with h | h
    · exact ⟨rin_wide (hr r h), (hr r h).2.2.1⟩
    · rw [List.mem_singleton.1 h]; exact ⟨⟨by simp only; omega, by simp only; omega, by simp only; omega, by simp only; omega⟩, hps.1⟩
  have hmk := rangeMarks_law (l ++ [(⟨p, s⟩ : S24)]) (by simp; omega) (fun r h => (hr' r h).1)
  have hbig : ∀ r ∈ prs (l ++ [(⟨p, s⟩ : S24)]), (-1099511627777 : Int) < r.1 := by
    intro r h
    obtain ⟨y, hy, rfl⟩ := List.mem_map.1 h
    have h3 := (hr' y hy).2
    simp only [p24]; omega
  obtain ⟨m1, m2⟩ := marks_law (prs (l ++ [(⟨p, s⟩ : S24)])) (-1099511627777) [] hbig trivial
  have hm3 := fold_len (prs (l ++ [(⟨p, s⟩ : S24)])) []
  have hin : ∀ z, z ∈ marksP (prs (l ++ [(⟨p, s⟩ : S24)])) ↔ (∃ r ∈ prs l, 1 ≤ r.2 ∧ (z = r.1 ∨ z = r.1 + r.2)) ∨ z = p ∨ z = p + s := by
    intro z
    rw [show z ∈ marksP (prs (l ++ [(⟨p, s⟩ : S24)])) ↔ _ from m2 z]
    simp only [List.not_mem_nil, false_or, prs, List.map_append, List.mem_append, List.map_cons, List.map_nil, List.mem_singleton]
    constructor
    · rintro ⟨r, h1 | h1, h2, h3⟩
      · exact .inl ⟨r, h1, h2, h3⟩
      · rw [h1] at h3; exact .inr h3
    · rintro (⟨r, h1, h2, h3⟩ | h)
      · exact ⟨r, .inl h1, h2, h3⟩
      · exact ⟨_, .inr rfl, hs, h⟩
  have hml : (marksP (prs (l ++ [(⟨p, s⟩ : S24)]))).length ≤ 200 := by
    have : (prs (l ++ [(⟨p, s⟩ : S24)])).length ≤ 61 := by simp [prs]; omega
    show (List.foldl _ [] _).length ≤ 200
    simp only [List.length_nil] at hm3
    omega
  have hM : Rise (-1099511627777) (marksP (prs (l ++ [(⟨p, s⟩ : S24)]))) := m1
  clear m1 m2 hm3
  have hf : ∀ k, spec_RangeParts.f k l p s = (spec_rangeMarks.f k (l ++ [(⟨p, s⟩ : S24)])).bind fun t => spec_RangeParts.l0 k l ([] : List S31) t ((0 : Nat) : Int) p s := by
    intro k
    simp only [spec_RangeParts.f]
    rw [if_neg (by omega)]
    simp only [Option.bind_some, List.nil_append, List.length_nil, Nat.zero_add, List.length_cons]
    rw [if_pos (by omega), if_pos (by omega)]
    rfl
  generalize marksP (prs (l ++ [(⟨p, s⟩ : S24)])) = M at *
  have hp0 : p ∈ M := (hin _).2 (.inr (.inl rfl))
  have hne : 0 < M.length := List.length_pos_of_mem hp0
  have h0 : M[0] ≤ p := by
    obtain ⟨j, hj, e⟩ := List.getElem_of_mem hp0
    by_cases hj0 : j = 0
    · subst hj0; omega
    · have := rise_get hM 0 j hne hj (by omega); omega
  obtain ⟨P, h1, h2, h3⟩ := parts_loop hr hl hps hs hM hml hin (M.length - 1) 0 [] (by omega) (by
    show p = clamp p (p + s) M[0]
    unfold clamp; rw [if_pos h0]) (by simp)
  exact ⟨P, Ev.congr hf (Ev.bind hmk h1), h2, h3⟩
theorem parts_law {l : List S24} (hr : ∀ r ∈ l, rin r) (hl : l.length ≤ 60) {p s : Int} (hps : rin ⟨p, s⟩) (hs : 1 ≤ s) :
    ∃ P, Ev (fun k => spec_RangeParts.f k l p s) P ∧ Cov (Byte l) p (P.map pr31) (p + s) ∧ P.length ≤ 200 := by
  obtain ⟨p1, p2, p3, p4⟩ := hps
  simp only at p1 p2 p3 p4
  exact parts_law' hr hl (by omega) hs
end Go.Proofs.Ytmkhkkfliecfdaa.Pure
