/- FnRangesShift: with all ranges so much further on, all is found so much further on. No conditions. (Over the texts with wide bounds: widen.py.) -/
import Derived.Test.YtmkhkkfliecfdaaPVx5
import Derived.Test.YtmkhkkfliecfdaaPureA
import Derived.Test.YtmkhkkfliecfdaaTot
namespace Go.Proofs.Ytmkhkkfliecfdaa.Pure
open Go.RowKit Go.Proofs.Ytmkhkkfliecfdaa.PV Go.Proofs.YtmkhkkfliecfdaaW.PrintWords Go.Proofs.YtmkhkkfliecfdaaW.PrintLast Go.Proofs.Ytmkhkkfliecfdaa.Pl Go.Proofs.Ytmkhkkfliecfdaa.Given Go.Proofs.Ytmkhkkfliecfdaa.PT Go.Proofs.Ytmkhkkfliecfdaa.PU
set_option linter.unusedVariables false
set_option linter.unusedSimpArgs false

def okl (l : List S24) : Prop := (∀ r ∈ prs l, okIn r) ∧ l.length ≤ 60
theorem ins_okl {l : List S24} (h : okl l) : impl_inserted.f l = some ((setP (prs l)).map s48) := by
  unfold impl_inserted.f
  rw [if_pos ⟨List.all_eq_true.2 fun x hx => decide_eq_true (h.1 _ (List.mem_map.2 ⟨x, hx, rfl⟩)), by have := h.2; omega⟩]
  rfl
theorem set_okl {l : List S24} (h : okl l) : Abv (-4398046511105) (setP (prs l)) ∧ (∀ z, Has (setP (prs l)) z ↔ Byte l z) ∧ (∀ x ∈ setP (prs l), Given.Good x) ∧ (setP (prs l)).length ≤ 60 := by
  obtain ⟨h1, h2, h3, h4⟩ := setP_law (prs l) h.1
  have h5 : (prs l).length = l.length := by simp [prs]
  have h6 := h.2
  exact ⟨h1, h2, h3, by omega⟩
theorem find_okl {l : List S24} (h : okl l) {p s : Int} (hp : Near (p, s)) :
    ranges_Find.f ((setP (prs l)).map s48) p s = some ((findP (setP (prs l)) (p, s)).1.1, (findP (setP (prs l)) (p, s)).1.2, (findP (setP (prs l)) (p, s)).2.1.1, (findP (setP (prs l)) (p, s)).2.1.2, (findP (setP (prs l)) (p, s)).2.2) := by
  obtain ⟨h1, h2, h3, h4⟩ := set_okl h
  unfold ranges_Find.f
  rw [if_pos ⟨rises_of h1, by simp; omega, List.all_eq_true.2 fun x hx => by obtain ⟨y, hy, rfl⟩ := List.mem_map.1 hx; exact good_near (h3 y hy), decide_eq_true hp⟩, map_ps]
def pr72 (x : S72) : (Int × Int) × Bool := ((x.f0.f0, x.f0.f1), x.f1)
def to31 (x : S72) : S31 := ⟨⟨x.f0.f0, x.f0.f1⟩, x.f1⟩
theorem findAll_loop {l : List S24} (h : okl l) (p e : Int) (hp : -4398046511104 ≤ p ∧ e ≤ 4398046511104 ∧ e - p ≤ 1099511627776) : ∀ (n : Nat) (q t : Int) (acc : List S72), t.toNat ≤ n → 1 ≤ t → q + t = e → p ≤ q →
    Cov (Byte l) p (acc.map pr72) q → (∀ y ∈ (acc.map pr72).getLast?, (Byte l q ↔ y.2 = false)) → (acc.length : Int) ≤ q - p →
    ∃ R : List S72, Ev (fun k => ranges_Ranges_FindAll.l0 k ((setP (prs l)).map s48) acc q t) R ∧ Cov (Byte l) p (R.map pr72) e ∧ (R.length : Int) ≤ e - p
  | 0, q, t, acc, hn, h1, _, _, _, _, _ => by omega
  | n + 1, q, t, acc, hn, h1, hq, hpq, hc, hlast, hlen => by
    obtain ⟨s1, s2, s3, s4⟩ := set_okl h
    have hf := findP_law (setP (prs l)) (q, t) _ s1 h1
    have hfl := find_okl h (p := q) (s := t) ⟨by simp only; omega, by simp only; omega, by simp only; omega, by simp only; omega⟩
    generalize findP (setP (prs l)) (q, t) = X at *
    obtain ⟨⟨c1, c2⟩, ⟨n1, n2⟩, b⟩ := X
    obtain ⟨f1, f2, f3, f4, f5, f6⟩ := hf
    simp only at f1 f2 f3 f4 f5 f6 hfl
    subst f1
    have hstep : ∀ k, ranges_Ranges_FindAll.l0 (k + 1) ((setP (prs l)).map s48) acc c1 t = ranges_Ranges_FindAll.l0 k ((setP (prs l)).map s48) (acc ++ [(⟨(⟨c1, c2⟩ : S48), b⟩ : S72)]) n1 n2 := by
      intro k
      simp only [ranges_Ranges_FindAll.l0, ranges_Range_IsEmpty.f, Option.bind_some, hfl]
      rw [decide_eq_false (show ¬ t ≤ 0 by omega)]
      simp only [Bool.false_eq_true, if_false]
      rw [if_pos (by omega)]
    have hcov : Cov (Byte l) p ((acc ++ [(⟨(⟨c1, c2⟩ : S48), b⟩ : S72)]).map pr72) (c1 + c2) := by
      rw [List.map_append]
      refine hc.snoc rfl f2 (fun z hz => (s2 z).symm.trans (f4 z hz)) ?_
      intro y hy e_
      have h2 := hlast y hy
      have h3 := (s2 c1).symm.trans (f4 c1 (by unfold In; simp only; omega))
      rw [h3] at h2
      have e2 : y.2 = b := e_
      rw [e2] at h2
      cases b <;> simp at h2
    by_cases hlt : c2 < t
    · obtain ⟨k1, k2⟩ := f5 hlt
      have k2' : n1 = c1 + c2 ∧ n2 = t - c2 := by simpa [Prod.ext_iff] using k2
      obtain ⟨rfl, rfl⟩ := k2'
      obtain ⟨R, r1, r2, r3⟩ := findAll_loop h p e hp n (c1 + c2) (t - c2) (acc ++ [(⟨(⟨c1, c2⟩ : S48), b⟩ : S72)]) (by omega) (by omega) (by omega) (by omega) hcov (by
        intro y hy
        simp [pr72] at hy
        subst hy
        exact (s2 _).symm.trans k1) (by simp; omega)
      exact ⟨R, Ev.step hstep r1, r2, r3⟩
    · have hn2 := f6 (by omega)
      refine ⟨acc ++ [(⟨(⟨c1, c2⟩ : S48), b⟩ : S72)], Ev.step hstep (Ev.step (f := fun _ => some (acc ++ [(⟨(⟨c1, c2⟩ : S48), b⟩ : S72)])) (fun k => ?_) (Ev.now _)), ?_, by simp; omega⟩
      · simp only [ranges_Ranges_FindAll.l0, ranges_Range_IsEmpty.f, Option.bind_some]
        rw [decide_eq_true (show n2 ≤ 0 by omega)]
        rfl
      · rw [show e = c1 + c2 by omega]; exact hcov
theorem tell_found (L : List S72) (hl : L.length ≤ 4398046511104 * 2) : ∀ (d i : Nat) (out : List S31), i + d = L.length → out.length ≤ i → L.length ≤ 2199023255552 * 2 →
    Ev (fun k => impl_tellFound.l0 k out L (L.length : Int) (i : Int)) (out ++ (L.drop i).map to31)
  | 0, i, out, h, ho, hb => by
    rw [List.drop_eq_nil_of_le (by omega)]
    refine Ev.step (f := fun _ => some out) (fun k => by simp only [impl_tellFound.l0]; rw [if_neg (by omega)]) ?_
    simp only [List.map_nil, List.append_nil]
    exact Ev.now _
  | d + 1, i, out, h, ho, hb => by
    have hi : i < L.length := by omega
    rw [List.drop_eq_getElem_cons hi, List.map_cons]
    have hs : ∀ k, impl_tellFound.l0 (k + 1) out L (L.length : Int) (i : Int) = impl_tellFound.l0 k (out ++ [to31 L[i]]) L (L.length : Int) ((i + 1 : Nat) : Int) := by
      intro k
      have er : rd_T72 L (i : Int) = L[i] := by simp [rd_T72, hi]
      simp only [impl_tellFound.l0]
      rw [if_pos (by omega), if_pos (by omega), if_pos (by omega), er, w1 (by omega)]
      simp only [impl_told.f, Option.bind_some]
      rw [if_pos (show out.length < 5864062014805 by omega)]
      rfl
    have := tell_found L hl d (i + 1) (out ++ [to31 L[i]]) (by omega) (by simp; omega) hb
    rw [List.append_assoc] at this
    exact Ev.step hs this
def q31 (x : S31) : (Int × Int) × Bool := ((x.f0.f0, x.f0.f1), x.f1)
theorem q_to (L : List S72) : (L.map to31).map q31 = L.map pr72 := by rw [List.map_map]; rfl
theorem findAll_law {l : List S24} (h : okl l) {p s : Int} (hp : -4398046511104 ≤ p ∧ p + s ≤ 4398046511104 ∧ s ≤ 1099511627776) (hs : 0 ≤ s) :
    ∃ P : List S31, Ev (fun k => impl_RangesFindAll.f k l p s) P ∧ Cov (Byte l) p (P.map q31) (p + s) ∧ (P.length : Int) ≤ 1099511627776 := by
  have main : ∃ R : List S72, Ev (fun k => ranges_Ranges_FindAll.l0 k ((setP (prs l)).map s48) [] p s) R ∧ Cov (Byte l) p (R.map pr72) (p + s) ∧ (R.length : Int) ≤ (p + s) - p := by
    by_cases h0 : s ≤ 0
    · refine ⟨[], Ev.step (f := fun _ => some []) (fun k => ?_) (Ev.now _), by show p = p + s; omega, by simp; omega⟩
      simp only [ranges_Ranges_FindAll.l0, ranges_Range_IsEmpty.f, Option.bind_some]
      rw [decide_eq_true h0]
      rfl
    · exact findAll_loop h p (p + s) ⟨hp.1, hp.2.1, by omega⟩ s.toNat p s [] (Nat.le_refl _) (by omega) rfl (Int.le_refl _) rfl (by simp) (by simp)
  obtain ⟨R, r1, r2, r3⟩ := main
  have h1 := tell_found R (by omega) R.length 0 [] (by omega) (by simp) (by omega)
  rw [List.drop_zero, List.nil_append] at h1
  refine ⟨R.map to31, ?_, by rw [q_to]; exact r2, by rw [List.length_map]; omega⟩
  have hunf : ∀ k, impl_RangesFindAll.f k l p s = (ranges_Ranges_FindAll.l0 k ((setP (prs l)).map s48) [] p s).bind fun t137 => (impl_tellFound.l0 k [] t137 (t137.length : Int) 0) := by
    intro k
    simp only [impl_RangesFindAll.f, ranges_Ranges_FindAll.f, impl_tellFound.f]
    rw [ins_okl h]
    simp only [Option.bind_some, PT.impl_given.f]
    congr 1
    funext x
    cases impl_tellFound.l0 k [] x (x.length : Int) 0 <;> rfl
  exact Ev.congr hunf (Ev.bind r1 h1)
def shf (d : Int) (x : S24) : S24 := ⟨x.f0 + d, x.f1⟩
def sh2 (d : Int) (x : Int × Int) : Int × Int := (x.1 + d, x.2)
theorem rin_okl {l : List S24} (hr : ∀ r ∈ l, rin r) (hl : l.length ≤ 60) : okl l := ⟨ok_all hr, hl⟩
theorem okl_shift {l : List S24} (hr : ∀ r ∈ l, rin r) (hl : l.length ≤ 60) {d : Int} (hd : -1099511627776 ≤ d ∧ d ≤ 1099511627776) : okl (l.map (shf d)) := by
  refine ⟨fun r h => ?_, by simpa using hl⟩
  obtain ⟨y, hy, rfl⟩ := List.mem_map.1 h
  obtain ⟨x, hx, rfl⟩ := List.mem_map.1 hy
  obtain ⟨h1, h2, h3, h4⟩ := hr x hx
  by_cases h0 : x.f1 ≤ 0
  · exact .inl h0
  · refine .inr ⟨?_, ?_, ?_, ?_⟩ <;> simp only [p24, shf] <;> omega
theorem byte_shift (l : List S24) (d z : Int) : Byte (l.map (shf d)) z ↔ Byte l (z - d) := by
  unfold Byte prs
  constructor
  · rintro ⟨r, hx, h1, h2⟩
    obtain ⟨y, hy, rfl⟩ := List.mem_map.1 hx
    obtain ⟨x, hxl, rfl⟩ := List.mem_map.1 hy
    simp only [p24, shf] at h1 h2
    exact ⟨_, List.mem_map.2 ⟨x, hxl, rfl⟩, by simp only [p24]; omega, by simp only [p24]; omega⟩
  · rintro ⟨r, hx, h1, h2⟩
    obtain ⟨x, hxl, rfl⟩ := List.mem_map.1 hx
    simp only [p24] at h1 h2
    exact ⟨_, List.mem_map.2 ⟨_, List.mem_map.2 ⟨x, hxl, rfl⟩, rfl⟩, by simp only [p24, shf]; omega, by simp only [p24, shf]; omega⟩
theorem abv_shift (d : Int) : ∀ {L : List (Int × Int)} {p : Int}, Abv p L → Abv (p + d) (L.map (sh2 d))
  | [], _, _ => trivial
  | x :: xs, p, ⟨h1, h2, h3⟩ => by
    refine ⟨by simp only [sh2]; omega, h2, ?_⟩
    have := abv_shift d h3
    rw [show (sh2 d x).1 + (sh2 d x).2 = x.1 + x.2 + d by simp only [sh2]; omega]
    exact this
theorem has_shift (d : Int) : ∀ (L : List (Int × Int)) (z : Int), Has (L.map (sh2 d)) z ↔ Has L (z - d)
  | [], z => Iff.rfl
  | x :: xs, z => by
    show In (sh2 d x) z ∨ Has (xs.map (sh2 d)) z ↔ In x (z - d) ∨ Has xs (z - d)
    rw [has_shift d xs z]
    have : In (sh2 d x) z ↔ In x (z - d) := by unfold In sh2; simp only; omega
    rw [this]
theorem tot_shift (d : Int) : ∀ (L : List (Int × Int)), tot (L.map (sh2 d)) = tot L
  | [] => rfl
  | x :: xs => by rw [List.map_cons, tot, tot, tot_shift d xs]; rfl
theorem set_shift {l : List S24} (hr : ∀ r ∈ l, rin r) (hl : l.length ≤ 60) {d : Int} (hd : -1099511627776 ≤ d ∧ d ≤ 1099511627776) : setP (prs (l.map (shf d))) = (setP (prs l)).map (sh2 d) := by
  obtain ⟨a1, a2, _, _⟩ := set_okl (okl_shift hr hl hd)
  obtain ⟨b1, b2, _, _⟩ := set_okl (rin_okl hr hl)
  refine abv_ext _ _ _ _ a1 (abv_shift d b1) fun z => ?_
  rw [a2, has_shift, b2, byte_shift]
theorem tot_ok {L : List (Int × Int)} (hG : ∀ x ∈ L, Given.Good x) (hl : L.length ≤ 60) : 0 ≤ tot L ∧ tot L ≤ 1055531162664960 := by
  have := tot_bound hG; omega
theorem size_loop' (L : List (Int × Int)) (hG : ∀ x ∈ L, Given.Good x) (hl : L.length ≤ 60) : ∀ (d i : Nat) (acc : Int), i + d = L.length → 0 ≤ acc → acc + tot (L.drop i) ≤ 1055531162664960 →
    Ev (fun k => ranges_Ranges_Size.l0 k acc (L.map s48) ((L.map s48).length : Int) (i : Int)) (acc + tot (L.drop i))
  | 0, i, acc, h, h0, hb => by
    rw [List.drop_eq_nil_of_le (by omega), tot, Int.add_zero]
    exact Ev.step (f := fun _ => some acc) (fun k => by simp only [ranges_Ranges_Size.l0, List.length_map]; rw [if_neg (by omega)]) (Ev.now _)
  | d + 1, i, acc, h, h0, hb => by
    have hi : i < L.length := by omega
    have hm : i < (L.map s48).length := by simpa using hi
    rw [tot_drop hi] at hb ⊢
    have hg := hG _ (List.getElem_mem hi)
    have ht := (tot_bound (L := L.drop (i + 1)) fun x hx => hG x (List.mem_of_mem_drop hx)).1
    have he : ((L.map s48)[i]).f1 = L[i].2 := by simp [s48]
    have er : rd_T48 (L.map s48) (i : Int) = (L.map s48)[i] := by simp [rd_T48, hi]
    have h1 := hg.2.2.1
    have := size_loop' L hG hl d (i + 1) (acc + L[i].2) (by omega) (by omega) (by omega)
    rw [Int.add_assoc] at this
    refine Ev.step (fun k => ?_) this
    simp only [ranges_Ranges_Size.l0]
    rw [if_pos (by omega), if_pos (by omega), if_pos (by omega), er, he, w1 (by omega), wrap64_id (by omega) (by omega)]
theorem size_okl {l : List S24} (h : okl l) : Ev (fun k => impl_RangesSize.f k l) (tot (setP (prs l))) := by
  obtain ⟨s1, s2, s3, s4⟩ := set_okl h
  have hb := tot_ok s3 s4
  have h1 := size_loop' (setP (prs l)) s3 s4 _ 0 0 (Nat.zero_add _) (Int.le_refl _) (by rw [List.drop_zero]; omega)
  rw [List.drop_zero, Int.zero_add] at h1
  refine Ev.congr (fun k => ?_) h1
  simp only [impl_RangesSize.f, ranges_Ranges_Size.f]
  rw [ins_okl h, Option.bind_some]
  cases ranges_Ranges_Size.l0 k 0 ((setP (prs l)).map s48) (((setP (prs l)).map s48).length : Int) 0 <;> rfl
theorem shift1_law {a b d : Int} (h : -4611686018427387904 ≤ a + d ∧ a + d ≤ 4611686018427387904) : rangesShift1.f a b d = some (a + d, b) := by
  unfold rangesShift1.f
  rw [wrap64_id (by omega) (by omega)]
section
variable {l : List S24} (hr : ∀ r ∈ l, rin r) (hl : l.length ≤ 60) {p s d : Int} (hps : rin ⟨p, s⟩) (hs0 : 0 ≤ s) (hd : -1099511627776 ≤ d ∧ d ≤ 1099511627776)
theorem shift_l1 (P Q : List S31) (hP : (P.length : Int) ≤ 1099511627776) (hb : ∀ x ∈ P, -4398046511104 ≤ x.f0.f0 ∧ x.f0.f0 ≤ 4398046511104) (hd : -1099511627776 ≤ d ∧ d ≤ 1099511627776) (hPQ : Q.map q31 = (P.map q31).map fun x => ((x.1.1 + d, x.1.2), x.2)) :
    ∀ (n i : Nat), i + n = P.length → Ev (fun k => laws_FnRangesShift.l1 k P Q (P.length : Int) (i : Int) d) true
  | 0, i, h => Ev.step (f := fun _ => some true) (fun k => by simp only [laws_FnRangesShift.l1]; rw [if_neg (by omega)]) (Ev.now _)
  | n + 1, i, h => by
    have hi : i < P.length := by omega
    have hlen : Q.length = P.length := by have := congrArg List.length hPQ; simpa using this
    have hj : i < Q.length := by omega
    have he : q31 Q[i] = (((q31 P[i]).1.1 + d, (q31 P[i]).1.2), (q31 P[i]).2) := by
      have h1 : (Q.map q31)[i]'(by simpa using hj) = ((P.map q31).map fun x => ((x.1.1 + d, x.1.2), x.2))[i]'(by simpa using hi) := by simp only [hPQ]
      simpa using h1
    simp only [q31, Prod.mk.injEq] at he
    obtain ⟨⟨e1, e2⟩, e3⟩ := he
    have hx := hb _ (List.getElem_mem hi)
    have er : rd_T31 P (i : Int) = P[i] := rd31 hi
    have eq : rd_T31 Q (i : Int) = Q[i] := rd31 hj
    refine Ev.step (fun k => ?_) (shift_l1 P Q hP hb hd hPQ n (i + 1) (by omega))
    simp only [laws_FnRangesShift.l1]
    rw [if_pos (by omega), if_pos (by omega), if_pos (by omega), er, eq, shift1_law (by omega), Option.bind_some, if_pos (by omega), e1, e2, e3, w1 (by omega)]
    simp
theorem cov_bound : ∀ {h : Int → Prop} (xs : List ((Int × Int) × Bool)) {a b : Int}, Cov h a xs b → ∀ x ∈ xs, a ≤ x.1.1 ∧ x.1.1 ≤ b
  | _, [], _, _, _, _, hx => by cases hx
  | h, y :: ys, a, b, ⟨a1, a2, a3, a4, a5⟩, x, hx => by
    have hle := a5.le
    rcases List.mem_cons.1 hx with rfl | hx
    · constructor <;> omega
    · have := cov_bound ys a5 x hx; omega
include hr hl hps hs0 hd
theorem shift_end : Ev (fun k => laws_FnRangesShift.l0 k l (l.map (shf d)) l (l.length : Int) (l.length : Int) p s d) true := by
  obtain ⟨h1, h2, h3, h4⟩ := hps
  simp only at h1 h2 h3 h4
  have ok1 := rin_okl hr hl
  have ok2 := okl_shift hr hl hd
  obtain ⟨P, p1, p2, p3⟩ := findAll_law ok1 (p := p) (s := s) (by omega) hs0
  obtain ⟨Q, q1, q2, q3⟩ := findAll_law ok2 (p := p + d) (s := s) (by omega) hs0
  have hsh := p2.shift d
  have hq : Q.map q31 = (P.map q31).map fun x => ((x.1.1 + d, x.1.2), x.2) := by
    refine cov_ext _ _ (Cov.iff (fun z => byte_shift l d z) q2) ?_
    rw [show p + d + s = p + s + d by omega]
    exact hsh
  have hlen : P.length = Q.length := by have := congrArg List.length hq; simpa using this.symm
  refine Ev.step (f := fun k => (impl_RangesFindAll.f k l p s).bind fun t147 => (impl_RangesFindAll.f k (l.map (shf d)) (p + d) s).bind fun t152 => if (t147.length : Int) = (t152.length : Int) then ((impl_RangesSize.f k l).bind fun t155 => ((impl_RangesSize.f k (l.map (shf d))).bind fun t156 => (laws_FnRangesShift.j2 k t147 t152 (t155 != t156) d))) else (laws_FnRangesShift.j2 k t147 t152 true d)) (fun k => ?_) ?_
  · simp only [laws_FnRangesShift.l0]
    rw [if_neg (by omega), shift1_law (by omega)]
    rfl
  · refine Ev.bind p1 (Ev.bind q1 (Ev.congr (fun k => if_pos (by omega)) (Ev.bind (size_okl ok1) (Ev.bind (size_okl ok2) ?_))))
    rw [set_shift hr hl hd, tot_shift, bne_self_eq_false]
    refine Ev.step (f := fun k => laws_FnRangesShift.l1 k P Q (P.length : Int) ((0 : Nat) : Int) d) (fun k => by simp only [laws_FnRangesShift.j2]; exact if_neg (by decide)) ?_
    refine shift_l1 P Q p3 (fun x hx => ?_) hd hq P.length 0 (Nat.zero_add _)
    have := cov_bound _ p2 (q31 x) (List.mem_map.2 ⟨x, hx, rfl⟩)
    simp only [q31] at this
    omega
theorem shift_l0 : ∀ (n i : Nat), i + n = l.length → Ev (fun k => laws_FnRangesShift.l0 k l ((l.take i).map (shf d)) l (l.length : Int) (i : Int) p s d) true
  | 0, i, h => by
    obtain rfl : i = l.length := by omega
    rw [List.take_length]
    exact shift_end hr hl hps hs0 hd
  | n + 1, i, h => by
    have hi : i < l.length := by omega
    have hx := hr _ (List.getElem_mem hi)
    obtain ⟨x1, x2, x3, x4⟩ := hx
    have e : (l.take (i + 1)).map (shf d) = (l.take i).map (shf d) ++ [(⟨l[i].f0 + d, l[i].f1⟩ : S24)] := by
      rw [List.take_succ_eq_append_getElem hi, List.map_append]; rfl
    have ih := shift_l0 n (i + 1) (by omega)
    rw [e] at ih
    refine Ev.step (fun k => ?_) ih
    simp only [laws_FnRangesShift.l0]
    rw [if_pos (by omega), if_pos (by omega), if_pos (by omega), rd24 hi, shift1_law (by omega), Option.bind_some, if_pos (by simp; omega), w1 (by omega)]
theorem FnRangesShift_main : Ev (fun k => laws_FnRangesShift.j0 k l false p s d) true := by
  refine Ev.step (f := fun k => (laws_rangeAwake.f k).bind fun t => if t = true then laws_FnRangesShift.l0 k l ((l.take 0).map (shf d)) l (l.length : Int) ((0 : Nat) : Int) p s d else some false) (fun k => by simp only [laws_FnRangesShift.j0]; exact if_neg (by decide)) ?_
  exact Ev.bind awake_law (Ev.congr (fun k => if_pos rfl) (shift_l0 hr hl hps hs0 hd l.length 0 (Nat.zero_add _)))
end
theorem FnRangesShift : laws_FnRangesShift.Pure := by
  intro l p s d _ _ _ _
  have sk : Ev (fun k => laws_FnRangesShift.j0 k l true p s d) true := Ev.step (f := fun _ => some true) (fun k => by simp [laws_FnRangesShift.j0]) (Ev.now _)
  suffices h : Ev (fun k => laws_FnRangesShift.f k l p s d) true from h.rounds
  by_cases h1 : (l.length : Int) > 2147483647
  · exact Ev.congr (fun k => by simp only [laws_FnRangesShift.f]; exact if_pos h1) (Ev.now true)
  · refine Ev.congr (fun k => by simp only [laws_FnRangesShift.f]; exact if_neg h1) ?_
    obtain ⟨b, hb, hb'⟩ := rangesIn_law l (by omega)
    refine Ev.bind hb ?_
    cases b with
    | false => exact Ev.congr (fun k => if_neg (by decide)) sk
    | true =>
      obtain ⟨h1, h2⟩ := hb' rfl
      refine Ev.congr (fun k => if_pos rfl) ?_
      obtain ⟨t, ht, ht'⟩ := rangeAsk_law p s
      refine Ev.congr (fun k => by rw [ht, Option.bind_some]) ?_
      cases t with
      | false => exact Ev.congr (fun k => if_neg (by decide)) sk
      | true =>
        obtain ⟨h3, h4⟩ := ht' rfl
        refine Ev.congr (fun k => if_pos rfl) ?_
        by_cases d1 : d < -1099511627776
        · exact Ev.congr (fun k => if_pos d1) sk
        · refine Ev.congr (fun k => if_neg d1) ?_
          by_cases d2 : d > 1099511627776
          · rw [decide_eq_true d2]; exact sk
          · rw [decide_eq_false d2]
            exact FnRangesShift_main h1 h2 h3 h4 (by omega)
end Go.Proofs.Ytmkhkkfliecfdaa.Pure
