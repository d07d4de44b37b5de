/- Plain facts on the printed functions of sets of ranges: lists near enough, sets, what a byte is in, the marks. No conditions beyond those that each states. -/
import Derived.Test.YtmkhkkfliecfdaaPTx20
import Derived.Test.YtmkhkkfliecfdaaPTx22
import Derived.Test.YtmkhkkfliecfdaaPTx23
import Derived.Test.YtmkhkkfliecfdaaPl
namespace Go.Proofs.Ytmkhkkfliecfdaa.Pure
open Go.RowKit Go.Proofs.Ytmkhkkfliecfdaa.PT Go.Proofs.YtmkhkkfliecfdaaW.PrintWords Go.Proofs.YtmkhkkfliecfdaaW.PrintLast Go.Proofs.Ytmkhkkfliecfdaa.Pl Go.Proofs.Ytmkhkkfliecfdaa.Given
set_option linter.unusedVariables false
set_option linter.unusedSimpArgs false

theorem rd24 {l : List S24} {i : Nat} (h : i < l.length) : rd_T24 l (i : Int) = l[i] := by simp [rd_T24, h]
theorem rd31 {l : List S31} {i : Nat} (h : i < l.length) : rd_T31 l (i : Int) = l[i] := by simp [rd_T31, h]
theorem rdi {l : List Int} {i : Nat} (h : i < l.length) : rd l (i : Int) = l[i] := by simp [rd, h]
theorem w1 {i : Nat} (h : i < 4611686018427387904) : wrap64 ((i : Int) + 1) = ((i + 1 : Nat) : Int) := by rw [wrap64_id (by omega) (by omega)]; omega

/-- near enough -/
def rin (r : S24) : Prop := -1099511627776 ≤ r.f1 ∧ r.f1 ≤ 1099511627776 ∧ -1099511627776 ≤ r.f0 ∧ r.f0 ≤ 1099511627776
theorem rangeIn_law (a b : Int) : ∃ t, spec_RangeIn.f a b = some t ∧ (t = true ↔ rin ⟨a, b⟩) := by
  unfold spec_RangeIn.f rin
  by_cases h1 : b ≥ -1099511627776
  · rw [if_pos h1]
    by_cases h2 : b ≤ 1099511627776
    · rw [if_pos h2]
      by_cases h3 : a ≥ -1099511627776
      · rw [if_pos h3]; exact ⟨_, rfl, by simp; omega⟩
      · rw [if_neg h3]; exact ⟨_, rfl, by simp; omega⟩
    · rw [if_neg h2]; exact ⟨_, rfl, by simp; omega⟩
  · rw [if_neg h1]; exact ⟨_, rfl, by simp; omega⟩
theorem rangesIn_loop (l : List S24) (hl : l.length ≤ 2147483647) : ∀ (d i : Nat), i + d = l.length →
    ∃ b, Ev (fun k => spec_RangesIn.l0 k l l (l.length : Int) (i : Int)) b ∧ (b = true → (∀ r ∈ l.drop i, rin r) ∧ l.length ≤ 60)
  | 0, i, h => by
    refine ⟨decide ((l.length : Int) ≤ 60), Ev.step (f := fun _ => some (decide ((l.length : Int) ≤ 60))) (fun k => ?_) (Ev.now _), fun hb => ⟨fun r hr => ?_, ?_⟩⟩
    · simp only [spec_RangesIn.l0]; rw [if_neg (by omega)]
    · rw [List.drop_eq_nil_of_le (by omega)] at hr; cases hr
    · have := of_decide_eq_true hb; omega
  | d + 1, i, h => by
    have hi : i < l.length := by omega
    obtain ⟨t, ht, hti⟩ := rangeIn_law (l[i]).f0 (l[i]).f1
    have hs : ∀ k, spec_RangesIn.l0 (k + 1) l l (l.length : Int) (i : Int) = if t = true then spec_RangesIn.l0 k l l (l.length : Int) ((i + 1 : Nat) : Int) else some false := by
      intro k
      simp only [spec_RangesIn.l0]
      rw [if_pos (by omega), if_pos (by omega), if_pos (by omega), rd24 hi, ht, w1 (by omega)]
      rfl
    cases t with
    | false => exact ⟨false, Ev.step (f := fun _ => some false) (fun k => by rw [hs]; rfl) (Ev.now _), fun h => by cases h⟩
    | true =>
      obtain ⟨b, h1, h2⟩ := rangesIn_loop l hl d (i + 1) (by omega)
      refine ⟨b, Ev.step (fun k => by rw [hs]; rfl) h1, fun hb => ?_⟩
      obtain ⟨h3, h4⟩ := h2 hb
      refine ⟨fun r hr => ?_, h4⟩
      rw [List.drop_eq_getElem_cons hi] at hr
      rcases List.mem_cons.1 hr with rfl | hr
      · exact hti.1 rfl
      · exact h3 r hr
theorem rangesIn_law (l : List S24) (hl : l.length ≤ 2147483647) : ∃ b, Ev (fun k => spec_RangesIn.f k l) b ∧ (b = true → (∀ r ∈ l, rin r) ∧ l.length ≤ 60) := by
  obtain ⟨b, h1, h2⟩ := rangesIn_loop l hl l.length 0 (by omega)
  exact ⟨b, h1, fun hb => by simpa using h2 hb⟩
theorem rangeAsk_law (a b : Int) : ∃ t, spec_RangeAsk.f a b = some t ∧ (t = true → rin ⟨a, b⟩ ∧ 0 ≤ b) := by
  obtain ⟨t, h1, h2⟩ := rangeIn_law a b
  unfold spec_RangeAsk.f
  rw [h1, Option.bind_some]
  cases t with
  | false => exact ⟨false, rfl, fun h => by cases h⟩
  | true => exact ⟨_, rfl, fun h => ⟨h2.1 rfl, of_decide_eq_true h⟩⟩
theorem awake_law : Ev (fun k => laws_rangeAwake.f k) true := Ev.of (fun k => laws_rangeAwake.mono k) (k := 12) (by decide +kernel)

/-- the list as pairs -/
def prs (l : List S24) : List (Int × Int) := l.map p24
/-- byte z is in one of l -/
def Byte (l : List S24) (z : Int) : Prop := ∃ r ∈ prs l, In r z
theorem rin_ok {r : S24} (h : rin r) : okIn (p24 r) := by
  obtain ⟨h1, h2, h3, h4⟩ := h
  by_cases h0 : r.f1 ≤ 0
  · exact .inl h0
  · refine .inr ⟨?_, ?_, ?_, ?_⟩ <;> simp only [p24] <;> omega
theorem rin_fits {r : S24} (h : rin r) : fits r = true := by
  have := rin_ok h
  unfold fits
  exact decide_eq_true this
theorem ok_all {l : List S24} (h : ∀ r ∈ l, rin r) : ∀ r ∈ prs l, okIn r := by
  intro r hr
  obtain ⟨x, hx, rfl⟩ := List.mem_map.1 hr
  exact rin_ok (h x hx)
theorem inserted_law {l : List S24} (h : ∀ r ∈ l, rin r) (hl : l.length ≤ 90000) : impl_inserted.f l = some ((setP (prs l)).map s48) := by
  unfold impl_inserted.f
  rw [if_pos ⟨List.all_eq_true.2 fun x hx => rin_fits (h x hx), hl⟩]
  rfl
theorem set_law {l : List S24} (h : ∀ r ∈ l, rin r) : Abv (-4398046511105) (setP (prs l)) ∧ (∀ z, Has (setP (prs l)) z ↔ Byte l z) ∧ (∀ x ∈ setP (prs l), Given.Good x) ∧ (setP (prs l)).length ≤ l.length := by
  obtain ⟨h1, h2, h3, h4⟩ := setP_law (prs l) (ok_all h)
  exact ⟨h1, h2, h3, by simpa [prs] using h4⟩
theorem good_near {x : Int × Int} (h : Given.Good x) : near (s48 x) = true := decide_eq_true h.near
theorem find_law {l : List S24} (h : ∀ r ∈ l, rin r) (hl : l.length ≤ 60) {p s : Int} (hp : Near (p, s)) :
    ranges_Find.f ((setP (prs l)).map s48) p s = some ((findP (setP (prs l)) (p, s)).1.1, (findP (setP (prs l)) (p, s)).1.2, (findP (setP (prs l)) (p, s)).2.1.1, (findP (setP (prs l)) (p, s)).2.1.2, (findP (setP (prs l)) (p, s)).2.2) := by
  obtain ⟨h1, h2, h3, h4⟩ := set_law h
  unfold ranges_Find.f
  rw [if_pos ⟨rises_of h1, by simp; omega, List.all_eq_true.2 fun x hx => by obtain ⟨y, hy, rfl⟩ := List.mem_map.1 hx; exact good_near (h3 y hy), decide_eq_true hp⟩, map_ps]

/-! RangeHas -/
theorem has_loop (l : List S24) (hr : ∀ r ∈ l, rin r) (hl : l.length ≤ 90000) (z : Int) (hz : -4398046511104 ≤ z ∧ z ≤ 4398046511104) : ∀ (d i : Nat), i + d = l.length →
    ∃ b, Ev (fun k => spec_RangeHas.l0 k z l (l.length : Int) (i : Int)) b ∧ (b = true ↔ Byte (l.drop i) z)
  | 0, i, h => by
    refine ⟨false, Ev.step (f := fun _ => some false) (fun k => ?_) (Ev.now _), ?_⟩
    · simp only [spec_RangeHas.l0]; rw [if_neg (by omega)]
    · rw [List.drop_eq_nil_of_le (by omega)]; simp [Byte, prs]
  | d + 1, i, h => by
    have hi : i < l.length := by omega
    obtain ⟨r1, r2, r3, r4⟩ := hr _ (List.getElem_mem hi)
    obtain ⟨b, h1, h2⟩ := has_loop l hr hl z hz d (i + 1) (by omega)
    have hb : Byte (l.drop i) z ↔ In (p24 l[i]) z ∨ Byte (l.drop (i + 1)) z := by
      rw [List.drop_eq_getElem_cons hi]; simp only [Byte, prs, List.map_cons, List.mem_cons, exists_eq_or_imp]
    have hw : wrap64 (z - (l[i]).f0) = z - (l[i]).f0 := wrap64_id (by omega) (by omega)
    by_cases hin : (l[i]).f0 ≤ z ∧ z - (l[i]).f0 < (l[i]).f1
    · refine ⟨true, Ev.step (f := fun _ => some true) (fun k => ?_) (Ev.now _), ?_⟩
      · simp only [spec_RangeHas.l0]
        rw [if_pos (by omega), if_pos (by omega), if_pos (by omega), rd24 hi, if_pos hin.1, hw, if_pos hin.2]
      · rw [hb]; simp only [true_iff]; exact .inl ⟨hin.1, by simp only [p24]; omega⟩
    · refine ⟨b, Ev.step (fun k => ?_) h1, ?_⟩
      · simp only [spec_RangeHas.l0]
        rw [if_pos (by omega), if_pos (by omega), if_pos (by omega), rd24 hi, hw, w1 (by omega)]
        by_cases h3 : (l[i]).f0 ≤ z
        · rw [if_pos h3, if_neg (by omega)]
        · rw [if_neg h3]
      · rw [hb, h2]
        constructor
        · exact .inr
        · rintro (⟨h3, h4⟩ | h3)
          · simp only [p24] at h3 h4; omega
          · exact h3
theorem rangeHas_law {l : List S24} (hr : ∀ r ∈ l, rin r) (hl : l.length ≤ 90000) {z : Int} (hz : -4398046511104 ≤ z ∧ z ≤ 4398046511104) :
    ∃ b, Ev (fun k => spec_RangeHas.f k l z) b ∧ (b = true ↔ Byte l z) := by
  obtain ⟨b, h1, h2⟩ := has_loop l hr hl z hz l.length 0 (by omega)
  exact ⟨b, h1, by simpa using h2⟩

/-- wide enough for sums -/
def wide (r : S24) : Prop := -8796093022208 ≤ r.f1 ∧ r.f1 ≤ 8796093022208 ∧ -8796093022208 ≤ r.f0 ∧ r.f0 ≤ 8796093022208
theorem rin_wide {r : S24} (h : rin r) : wide r := by
  obtain ⟨h1, h2, h3, h4⟩ := h
  exact ⟨by omega, by omega, by omega, by omega⟩
/-! the marks -/
theorem insM_len (out : List Int) (p : Int) : (insM out p).length ≤ out.length + 1 := by
  unfold insM
  simp only
  split
  · omega
  · have h := (List.takeWhile_prefix (l := out) (fun x => decide (x < p))).length_le
    simp only [List.length_append, List.length_cons, List.length_take, List.length_drop]; omega
section
variable (l : List S24) (hl : l.length ≤ 90000)
include hl
theorem l2_loop (out : List Int) (ho : out.length ≤ 200000) (p : Int) (i : Nat) (hi : i < l.length) (x27 q1 q2 : Int) (r : List Int) (hx : wrap64 (x27 + 1) = x27 + 1)
    (hn : Ev (fun k => spec_rangeMarks.l1 k (insM out p) l (l.length : Int) (i : Int) (x27 + 1) q1 q2) r) :
    ∀ (d a : Nat), a + d = (out.takeWhile fun x => decide (x < p)).length → Ev (fun k => spec_rangeMarks.l2 k out p (a : Int) l (l.length : Int) (i : Int) x27 q1 q2) r
  | 0, a, h => by
    have _ := hl
    have ha : a = (out.takeWhile fun x => decide (x < p)).length := by omega
    have hal : a ≤ out.length := by rw [ha]; exact (List.takeWhile_prefix _).length_le
    refine Ev.step (f := fun k => spec_rangeMarks.l1 k (insM out p) l (l.length : Int) (i : Int) (x27 + 1) q1 q2) (fun k => ?_) hn
    by_cases hlt : a < out.length
    · have hge : ¬ out[a] < p := by
        have h1 := List.takeWhile_append_dropWhile (p := fun x => decide (x < p)) (l := out)
        have h2 : out[a]? = ((out.dropWhile fun x => decide (x < p)))[0]? := by
          conv => lhs; rw [← h1]
          rw [List.getElem?_append_right (by omega), ha, Nat.sub_self]
        have h3 := List.head?_dropWhile_not (fun x : Int => decide (x < p)) out
        rw [← List.head?_eq_getElem?, List.getElem?_eq_getElem hlt] at h2
        rw [← h2] at h3
        simpa using h3
      simp only [spec_rangeMarks.l2]
      rw [if_pos (by omega), if_pos (by omega), rdi hlt, if_neg hge]
      have hg : out.getD a 0 = out[a] := by simp [hlt]
      by_cases he : out[a] = p
      · rw [if_pos he, hx]
        congr 1
        unfold insM
        simp only
        rw [← ha, if_pos ⟨hlt, by rw [hg]; exact he⟩]
      · rw [if_neg he]
        simp only [Option.bind_some, Int.toNat_natCast, List.nil_append, List.length_nil, Nat.zero_add, List.length_append, List.length_take, List.length_drop, List.length_cons]
        rw [if_pos (by omega), if_pos (by omega), if_pos (by omega), if_pos (by omega), hx]
        congr 1
        unfold insM
        simp only
        rw [← ha, if_neg (fun h => he (by rw [← hg]; exact h.2))]
        simp
    · have hal2 : a = out.length := by omega
      simp only [spec_rangeMarks.l2]
      rw [if_neg (by omega)]
      simp only [Option.bind_some, Int.toNat_natCast, List.nil_append, List.length_nil, Nat.zero_add, List.length_append, List.length_take, List.length_drop, List.length_cons]
      rw [if_pos (by omega), if_pos (by omega), if_pos (by omega), if_pos (by omega), if_pos (by omega), hx]
      congr 1
      unfold insM
      simp only
      rw [← ha, if_neg (fun h => hlt h.1)]
      simp
  | d + 1, a, h => by
    have hal : a < out.length := by have := (List.takeWhile_prefix (l := out) (fun x => decide (x < p))).length_le; omega
    have hlt : out[a] < p := by
      have h1 : a < (out.takeWhile fun x => decide (x < p)).length := by omega
      have h2 : (out.takeWhile fun x => decide (x < p))[a] = out[a] := (List.takeWhile_prefix _).getElem h1
      have h3 := List.all_eq_true.1 (List.all_takeWhile (l := out) (p := fun x => decide (x < p))) _ (List.getElem_mem h1)
      rw [h2] at h3
      simpa using h3
    refine Ev.step (fun k => ?_) (l2_loop out ho p i hi x27 q1 q2 r hx hn d (a + 1) (by omega))
    simp only [spec_rangeMarks.l2]
    rw [if_pos (by omega), if_pos (by omega), rdi hal, if_pos hlt, w1 (by omega)]
theorem l1_all (out : List Int) (ho : out.length ≤ 190000) (i : Nat) (hi : i < l.length) (q1 q2 : Int) (r : List Int)
    (hn : Ev (fun k => spec_rangeMarks.l0 k (insM (insM out q1) q2) l (l.length : Int) ((i + 1 : Nat) : Int)) r) :
    Ev (fun k => spec_rangeMarks.l1 k out l (l.length : Int) (i : Int) 0 q1 q2) r := by
  have h2 : Ev (fun k => spec_rangeMarks.l1 k (insM (insM out q1) q2) l (l.length : Int) (i : Int) (1 + 1) q1 q2) r := by
    refine Ev.step (fun k => ?_) hn
    simp only [spec_rangeMarks.l1]
    rw [if_neg (by omega), w1 (by omega)]
  have h1 : Ev (fun k => spec_rangeMarks.l1 k (insM out q1) l (l.length : Int) (i : Int) (0 + 1) q1 q2) r := by
    have := insM_len out q1
    refine Ev.step (fun k => ?_) (l2_loop l hl (insM out q1) (by omega) q2 i hi 1 q1 q2 r (wrap64_id (by omega) (by omega)) h2 _ 0 (Nat.zero_add _))
    simp only [spec_rangeMarks.l1]
    rw [if_pos (by omega), if_pos (by omega)]
    rfl
  refine Ev.step (fun k => ?_) (l2_loop l hl out (by omega) q1 i hi 0 q1 q2 r (wrap64_id (by omega) (by omega)) h1 _ 0 (Nat.zero_add _))
  simp only [spec_rangeMarks.l1]
  rw [if_pos (by omega), if_pos (by omega)]
  rfl
theorem marks_loop (hr : ∀ r ∈ l, wide r) : ∀ (d i : Nat) (out : List Int), i + d = l.length → out.length ≤ 2 * i →
    Ev (fun k => spec_rangeMarks.l0 k out l (l.length : Int) (i : Int)) ((prs (l.drop i)).foldl (fun out r => if r.2 < 1 then out else insM (insM out r.1) (r.1 + r.2)) out)
  | 0, i, out, h, ho => by
    refine Ev.step (f := fun _ => some out) (fun k => ?_) ?_
    · simp only [spec_rangeMarks.l0]; rw [if_neg (by omega)]
    · rw [List.drop_eq_nil_of_le (by omega)]; exact Ev.now _
  | d + 1, i, out, h, ho => by
    have hi : i < l.length := by omega
    obtain ⟨r1, r2, r3, r4⟩ := hr _ (List.getElem_mem hi)
    have e : prs (l.drop i) = p24 l[i] :: prs (l.drop (i + 1)) := by rw [List.drop_eq_getElem_cons hi]; rfl
    rw [e, List.foldl_cons]
    by_cases h0 : (l[i]).f1 < 1
    · rw [if_pos (by exact h0)]
      refine Ev.step (fun k => ?_) (marks_loop hr d (i + 1) out (by omega) (by omega))
      simp only [spec_rangeMarks.l0]
      rw [if_pos (by omega), if_pos (by omega), if_pos (by omega), rd24 hi, if_pos h0, w1 (by omega)]
    · rw [if_neg (by exact h0)]
      have hw : wrap64 ((l[i]).f0 + (l[i]).f1) = (l[i]).f0 + (l[i]).f1 := wrap64_id (by omega) (by omega)
      have b1 := insM_len out (l[i]).f0
      have b2 := insM_len (insM out (l[i]).f0) ((l[i]).f0 + (l[i]).f1)
      refine Ev.step (fun k => ?_) (l1_all l hl out (by omega) i hi (l[i]).f0 ((l[i]).f0 + (l[i]).f1) _ (marks_loop hr d (i + 1) _ (by omega) (by omega)))
      simp only [spec_rangeMarks.l0]
      rw [if_pos (by omega), if_pos (by omega), if_pos (by omega), rd24 hi, if_neg h0, hw]
theorem rangeMarks_law (hr : ∀ r ∈ l, wide r) : Ev (fun k => spec_rangeMarks.f k l) (marksP (prs l)) := by
  have := marks_loop l hl hr l.length 0 [] (by omega) (by simp)
  exact this
end
end Go.Proofs.Ytmkhkkfliecfdaa.Pure
