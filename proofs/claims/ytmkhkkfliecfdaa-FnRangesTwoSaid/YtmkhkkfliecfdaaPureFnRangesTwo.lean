/- FnRangesTwo: the size of two sets together is the sum of their sizes less what they share. No conditions. -/
import Derived.Test.YtmkhkkfliecfdaaPUx5
import Derived.Test.YtmkhkkfliecfdaaPureC
import Derived.Test.YtmkhkkfliecfdaaPureD
import Derived.Test.YtmkhkkfliecfdaaTot
namespace Go.Proofs.Ytmkhkkfliecfdaa.Pure
open Go.RowKit Go.Proofs.Ytmkhkkfliecfdaa.PU Go.Proofs.YtmkhkkfliecfdaaW.PrintWords Go.Proofs.YtmkhkkfliecfdaaW.PrintLast Go.Proofs.Ytmkhkkfliecfdaa.Pl Go.Proofs.Ytmkhkkfliecfdaa.Given Go.Proofs.Ytmkhkkfliecfdaa.PT
set_option linter.unusedVariables false
set_option linter.unusedSimpArgs false

theorem tot_near {L : List (Int × Int)} (hG : ∀ x ∈ L, Given.Good x) (hl : L.length ≤ 60) : 0 ≤ tot L ∧ tot L ≤ 263882790666240 := by
  have := tot_bound hG; omega
theorem size_loop (L : List (Int × Int)) (hG : ∀ x ∈ L, Given.Good x) (hl : L.length ≤ 60) : ∀ (d i : Nat) (acc : Int), i + d = L.length → 0 ≤ acc → acc + tot (L.drop i) ≤ 263882790666240 →
    Ev (fun k => ranges_Ranges_Size.l0 k acc (L.map s48) ((L.map s48).length : Int) (i : Int)) (acc + tot (L.drop i))
  | 0, i, acc, h, h0, hb => by
    rw [List.drop_eq_nil_of_le (by omega), tot, Int.add_zero]
    exact Ev.step (f := fun _ => some acc) (fun k => by simp only [ranges_Ranges_Size.l0, List.length_map]; rw [if_neg (by omega)]) (Ev.now _)
  | d + 1, i, acc, h, h0, hb => by
    have hi : i < L.length := by omega
    have hm : i < (L.map s48).length := by simpa using hi
    rw [tot_drop hi] at hb ⊢
    have hg := hG _ (List.getElem_mem hi)
    have ht := (tot_bound (L := L.drop (i + 1)) fun x hx => hG x (List.mem_of_mem_drop hx)).1
    have he : ((L.map s48)[i]).f1 = L[i].2 := by simp [s48]
    have h1 := hg.2.2.1
    have := size_loop L hG hl d (i + 1) (acc + L[i].2) (by omega) (by omega) (by omega)
    rw [Int.add_assoc] at this
    refine Ev.step (fun k => ?_) this
    simp only [ranges_Ranges_Size.l0]
    rw [if_pos (by omega), if_pos (by omega), if_pos (by omega), D.rd48 hm, he, w1 (by omega), wrap64_id (by omega) (by omega)]
theorem size_law {l : List S24} (hr : ∀ r ∈ l, rin r) (hl : l.length ≤ 60) : Ev (fun k => impl_RangesSize.f k l) (tot (setP (prs l))) := by
  obtain ⟨s1, s2, s3, s4⟩ := set_law hr
  have hb := tot_near s3 (by omega)
  have h := size_loop (setP (prs l)) s3 (by omega) _ 0 0 (Nat.zero_add _) (Int.le_refl _) (by rw [List.drop_zero]; omega)
  rw [List.drop_zero, Int.zero_add] at h
  refine Ev.congr (fun k => ?_) h
  simp only [impl_RangesSize.f, ranges_Ranges_Size.f]
  rw [inserted_law hr (by omega), Option.bind_some]
  cases ranges_Ranges_Size.l0 k 0 ((setP (prs l)).map s48) (((setP (prs l)).map s48).length : Int) 0 <;> rfl
theorem cut_law {l : List S24} (hr : ∀ r ∈ l, rin r) (hl : l.length ≤ 60) {a b : Int} (hg : Given.Good (a, b)) : Ev (fun k => impl_RangesCut.f k l a b) ((cutS (setP (prs l)) (a, b)).map s24) := by
  obtain ⟨s1, s2, s3, s4⟩ := set_law hr
  have hlen := cutS_len (setP (prs l)) (a, b)
  have h := D.tell_loop ((cutS (setP (prs l)) (a, b)).map s48) (by simp; omega) ((cutS (setP (prs l)) (a, b)).map s48).length 0 [] (by omega) (by simp)
  have e : ([] : List S24) ++ (((cutS (setP (prs l)) (a, b)).map s48).drop 0).map (fun x => (⟨x.f0, x.f1⟩ : S24)) = (cutS (setP (prs l)) (a, b)).map s24 := by
    simp [Function.comp_def, s48, s24]
  rw [e] at h
  have hi : ranges_Intersection.f ((setP (prs l)).map s48) a b = some ((cutS (setP (prs l)) (a, b)).map s48) := by
    unfold ranges_Intersection.f
    rw [map_ps]
    refine if_pos ⟨abvB_law.2 (by rw [map_ps]; exact s1), List.all_eq_true.2 fun x hx => ?_, by simp; omega, .inr (goodB_law.2 hg), hg.1, hg.2.1⟩
    obtain ⟨y, hy, rfl⟩ := List.mem_map.1 hx
    exact goodB_law.2 (s3 y hy)
  refine Ev.congr (fun k => ?_) h
  simp only [impl_RangesCut.f]
  rw [inserted_law hr (by omega), Option.bind_some]
  simp only [PT.impl_given.f, Option.bind_some]
  rw [hi, Option.bind_some]
  simp only [impl_tellAll.f]
  cases impl_tellAll.l0 k [] ((cutS (setP (prs l)) (a, b)).map s48) (((cutS (setP (prs l)) (a, b)).map s48).length : Int) 0 <;> rfl
theorem share_low (A : List (Int × Int)) (hA : ∀ x ∈ A, Given.Good x) (hl : A.length ≤ 60) : ∀ (B : List (Int × Int)), (∀ x ∈ B, Given.Good x) → 0 ≤ share A B ∧ share A B ≤ 263882790666240 * B.length
  | [], _ => by simp [share]
  | r :: rs, hB => by
    have ih := share_low A hA hl rs fun x hx => hB x (List.mem_cons_of_mem _ hx)
    have hg := hB r (List.mem_cons_self ..)
    have hc := tot_near (cutS_good (r := r) hA ⟨hg.1, hg.2.1⟩) (by have := cutS_len A r; omega)
    simp only [share, List.length_cons]
    constructor
    · omega
    · push_cast; omega
section
variable {l m : List S24} (hl : ∀ r ∈ l, rin r) (hm : ∀ r ∈ m, rin r) (hlm : l.length + m.length ≤ 60)
theorem two_l1 (C : List (Int × Int)) (hG : ∀ x ∈ C, Given.Good x) (hc : C.length ≤ 60) (B : List S24) (n i : Int) (r : Bool) (tail : Int)
    (hn : Ev (fun k => laws_FnRangesTwo.l0 k l m tail B n (wrap64 (i + 1))) r) :
    ∀ (d j : Nat) (acc : Int), j + d = C.length → 0 ≤ acc → acc + tot (C.drop j) = tail → tail ≤ 4611686018427387904 →
      Ev (fun k => laws_FnRangesTwo.l1 k l m acc B n i (C.map s24) ((C.map s24).length : Int) (j : Int)) r
  | 0, j, acc, h, h0, ht, hb => by
    rw [List.drop_eq_nil_of_le (by omega), tot, Int.add_zero] at ht
    subst ht
    refine Ev.step (fun k => ?_) hn
    simp only [laws_FnRangesTwo.l1, List.length_map]
    rw [if_neg (by omega)]
  | d + 1, j, acc, h, h0, ht, hb => by
    have hj : j < C.length := by omega
    have hmj : j < (C.map s24).length := by simpa using hj
    rw [tot_drop hj] at ht
    have hg := (hG _ (List.getElem_mem hj)).2.2.1
    have hp := (tot_bound (L := C.drop (j + 1)) fun x hx => hG x (List.mem_of_mem_drop hx)).1
    have he : ((C.map s24)[j]).f1 = C[j].2 := by simp [s24]
    have := two_l1 C hG hc B n i r tail hn d (j + 1) (acc + C[j].2) (by omega) (by omega) (by omega) hb
    refine Ev.step (fun k => ?_) this
    simp only [laws_FnRangesTwo.l1]
    rw [if_pos (by omega), if_pos (by omega), if_pos (by omega), rd24 hmj, he, w1 (by omega), wrap64_id (by omega) (by omega)]
include hl hm hlm
theorem two_end : Ev (fun k => laws_FnRangesTwo.l0 k l m (share (setP (prs l)) (setP (prs m))) ((setP (prs m)).map s24) (((setP (prs m)).map s24).length : Int) ((setP (prs m)).length : Int)) true := by
  have hu : ∀ r ∈ l ++ m, rin r := fun r h => (List.mem_append.1 h).elim (hl r) (hm r)
  obtain ⟨a1, a2, a3, a4⟩ := set_law hl
  obtain ⟨b1, b2, b3, b4⟩ := set_law hm
  obtain ⟨c1, c2, c3, c4⟩ := set_law hu
  have hun := tot_union a1 b1 c1 a3 b3 c3 (fun z => by
    rw [a2, b2, c2]
    unfold Byte prs
    rw [List.map_append]
    constructor
    · rintro ⟨r, hx, h⟩
      exact (List.mem_append.1 hx).imp (fun k => ⟨r, k, h⟩) (fun k => ⟨r, k, h⟩)
    · rintro (⟨r, hx, h⟩ | ⟨r, hx, h⟩)
      · exact ⟨r, List.mem_append.2 (.inl hx), h⟩
      · exact ⟨r, List.mem_append.2 (.inr hx), h⟩)
  have tA := tot_near a3 (by omega)
  have tB := tot_near b3 (by omega)
  have tU := tot_near c3 (by rw [List.length_append] at c4; omega)
  refine Ev.step (f := fun k => (impl_RangesSize.f k (l ++ m)).bind fun t172 => (impl_RangesSize.f k l).bind fun t173 => (impl_RangesSize.f k m).bind fun t174 => some (t172 == wrap64 (wrap64 (t173 + t174) - share (setP (prs l)) (setP (prs m))))) (fun k => ?_) ?_
  · simp only [laws_FnRangesTwo.l0, Option.bind_some, List.nil_append, List.length_map]
    rw [if_neg (by omega), if_pos (by simp only [List.length_nil]; omega), if_pos (by omega)]
  · refine Ev.bind (size_law hu (by rw [List.length_append]; omega)) (Ev.bind (size_law hl (by omega)) (Ev.bind (size_law hm (by omega)) ?_))
    rw [wrap64_id (x := tot (setP (prs l)) + tot (setP (prs m))) (by omega) (by omega), wrap64_id (by omega) (by omega), hun]
    simp only [beq_self_eq_true]
    exact Ev.now true
theorem two_l0 : ∀ (d i : Nat) (acc : Int), i + d = (setP (prs m)).length → 0 ≤ acc → acc + share (setP (prs l)) ((setP (prs m)).drop i) = share (setP (prs l)) (setP (prs m)) →
    Ev (fun k => laws_FnRangesTwo.l0 k l m acc ((setP (prs m)).map s24) (((setP (prs m)).map s24).length : Int) (i : Int)) true
  | 0, i, acc, h, h0, ht => by
    obtain rfl : i = (setP (prs m)).length := by omega
    rw [List.drop_eq_nil_of_le (Nat.le_refl _), share, Int.add_zero] at ht
    subst ht
    exact two_end hl hm hlm
  | d + 1, i, acc, h, h0, ht => by
    obtain ⟨a1, a2, a3, a4⟩ := set_law hl
    obtain ⟨b1, b2, b3, b4⟩ := set_law hm
    have hi : i < (setP (prs m)).length := by omega
    have hmi : i < ((setP (prs m)).map s24).length := by simpa using hi
    rw [share_drop hi] at ht
    have hgi := b3 _ (List.getElem_mem hi)
    have hcg := cutS_good a3 ⟨hgi.1, hgi.2.1⟩
    have hcl := cutS_len (setP (prs l)) (setP (prs m))[i]
    have hct := tot_bound hcg
    have hsl := share_low (setP (prs l)) a3 (by omega) (setP (prs m)) b3
    have hsd := share_low (setP (prs l)) a3 (by omega) ((setP (prs m)).drop (i + 1)) (fun x hx => b3 x (List.mem_of_mem_drop hx))
    have he : ((setP (prs m)).map s24)[i] = s24 (setP (prs m))[i] := by simp
    have ih := two_l0 d (i + 1) (acc + tot (cutS (setP (prs l)) (setP (prs m))[i])) (by omega) (by omega) (by omega)
    refine Ev.step (f := fun k => (impl_RangesCut.f k l (setP (prs m))[i].1 (setP (prs m))[i].2).bind fun t177 => laws_FnRangesTwo.l1 k l m acc ((setP (prs m)).map s24) (((setP (prs m)).map s24).length : Int) (i : Int) t177 (t177.length : Int) 0) (fun k => ?_) ?_
    · simp only [laws_FnRangesTwo.l0]
      rw [if_pos (by omega), if_pos (by omega), if_pos (by omega), rd24 hmi, he]
      rfl
    · refine Ev.bind (cut_law hl (by omega) hgi) ?_
      exact two_l1 (cutS (setP (prs l)) (setP (prs m))[i]) hcg (by omega) _ _ _ true (acc + tot (cutS (setP (prs l)) (setP (prs m))[i])) (by rw [w1 (by omega)]; exact ih) _ 0 acc (Nat.zero_add _) h0 (by rw [List.drop_zero]) (by omega)
theorem FnRangesTwo_main : Ev (fun k => laws_FnRangesTwo.j1 k l m false) true := by
  refine Ev.step (fun k => by simp only [laws_FnRangesTwo.j1]; exact if_neg (by decide)) (awake_then ?_)
  exact Ev.bind (D.of_law hm (by omega)) (two_l0 hl hm hlm _ 0 0 (Nat.zero_add _) (Int.le_refl _) (by rw [List.drop_zero, Int.zero_add]))
end
theorem FnRangesTwo : laws_FnRangesTwo.Pure := by
  intro l m _ _ _ _
  have sk1 : Ev (fun k => laws_FnRangesTwo.j1 k l m true) true := Ev.step (f := fun _ => some true) (fun k => by simp [laws_FnRangesTwo.j1]) (Ev.now _)
  have sk0 : Ev (fun k => laws_FnRangesTwo.j0 k l m true) true := Ev.step (f := fun _ => some true) (fun k => by simp [laws_FnRangesTwo.j0]) (Ev.now _)
  suffices h : Ev (fun k => laws_FnRangesTwo.f k l m) true from h.rounds
  by_cases h1 : (l.length : Int) > 2147483647
  · exact Ev.congr (fun k => by simp only [laws_FnRangesTwo.f]; exact if_pos h1) sk0
  · refine Ev.congr (f := fun k => laws_FnRangesTwo.j0 k l m (decide ((m.length : Int) > 2147483647))) (fun k => by simp only [laws_FnRangesTwo.f]; exact if_neg h1) ?_
    by_cases h2 : (m.length : Int) > 2147483647
    · rw [decide_eq_true h2]; exact sk0
    · rw [decide_eq_false h2]
      refine Ev.step (fun k => by simp only [laws_FnRangesTwo.j0]; exact if_neg (by decide)) ?_
      obtain ⟨a, ha, ha'⟩ := rangesIn_law l (by omega)
      refine Ev.bind ha ?_
      cases a with
      | false => exact Ev.congr (fun k => if_neg (by decide)) sk1
      | true =>
        obtain ⟨a1, a2⟩ := ha' rfl
        refine Ev.congr (fun k => if_pos rfl) ?_
        obtain ⟨b, hb, hb'⟩ := rangesIn_law m (by omega)
        refine Ev.bind hb ?_
        cases b with
        | false => exact Ev.congr (fun k => if_neg (by decide)) sk1
        | true =>
          obtain ⟨b1, b2⟩ := hb' rfl
          refine Ev.congr (fun k => if_pos rfl) ?_
          rw [wrap64_id (by omega) (by omega)]
          by_cases h3 : (l.length : Int) + (m.length : Int) > 60
          · rw [decide_eq_true h3]; exact sk1
          · rw [decide_eq_false h3]; exact FnRangesTwo_main a1 b1 (by omega)
end Go.Proofs.Ytmkhkkfliecfdaa.Pure
