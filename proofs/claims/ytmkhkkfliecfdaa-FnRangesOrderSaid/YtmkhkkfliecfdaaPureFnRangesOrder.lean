/- FnRangesOrder: the set of a list doesn't depend on the order of the list, nor on a range that comes twice. No conditions. -/
import Derived.Test.YtmkhkkfliecfdaaPTx41
import Derived.Test.YtmkhkkfliecfdaaPureC
import Derived.Test.YtmkhkkfliecfdaaPureW
namespace Go.Proofs.Ytmkhkkfliecfdaa.Pure
open Go.RowKit Go.Proofs.Ytmkhkkfliecfdaa.PT Go.Proofs.YtmkhkkfliecfdaaW.PrintWords Go.Proofs.YtmkhkkfliecfdaaW.PrintLast Go.Proofs.Ytmkhkkfliecfdaa.Pl Go.Proofs.Ytmkhkkfliecfdaa.Given
set_option linter.unusedVariables false
set_option linter.unusedSimpArgs false

theorem rd48 {l : List S48} {i : Nat} (h : i < l.length) : rd_T48 l (i : Int) = l[i] := by simp [rd_T48, h]
theorem told_law {x : S48} : impl_told.f x.f0 x.f1 = some (x.f0, x.f1) := rfl
theorem tell_loop (L : List S48) (hl : L.length ≤ 90000) : ∀ (d i : Nat) (out : List S24), i + d = L.length → out.length ≤ i →
    Ev (fun k => impl_tellAll.l0 k out L (L.length : Int) (i : Int)) (out ++ (L.drop i).map fun x => (⟨x.f0, x.f1⟩ : S24))
  | 0, i, out, h, ho => by
    rw [List.drop_eq_nil_of_le (by omega)]
    refine Ev.step (f := fun _ => some out) (fun k => by simp only [impl_tellAll.l0]; rw [if_neg (by omega)]) ?_
    simp only [List.map_nil, List.append_nil]
    exact Ev.now _
  | d + 1, i, out, h, ho => by
    have hi : i < L.length := by omega
    rw [List.drop_eq_getElem_cons hi, List.map_cons]
    have hs : ∀ k, impl_tellAll.l0 (k + 1) out L (L.length : Int) (i : Int) = impl_tellAll.l0 k (out ++ [(⟨L[i].f0, L[i].f1⟩ : S24)]) L (L.length : Int) ((i + 1 : Nat) : Int) := by
      intro k
      simp only [impl_tellAll.l0]
      rw [if_pos (by omega), if_pos (by omega), if_pos (by omega), rd48 hi, told_law, Option.bind_some, w1 (by omega)]
      rw [if_pos (show out.length < 8796093022208 by omega)]
    have := tell_loop L hl d (i + 1) (out ++ [(⟨L[i].f0, L[i].f1⟩ : S24)]) (by omega) (by simp; omega)
    rw [List.append_assoc] at this
    exact Ev.step hs this
theorem of_law {l : List S24} (hr : ∀ r ∈ l, rin r) (hl : l.length ≤ 90000) : Ev (fun k => impl_RangesOf.f k l) ((setP (prs l)).map s24) := by
  obtain ⟨s1, s2, s3, s4⟩ := set_law hr
  have h := tell_loop ((setP (prs l)).map s48) (by simp; omega) ((setP (prs l)).map s48).length 0 [] (by omega) (by simp)
  have e : ([] : List S24) ++ (((setP (prs l)).map s48).drop 0).map (fun x => (⟨x.f0, x.f1⟩ : S24)) = (setP (prs l)).map s24 := by
    simp [Function.comp_def, s48, s24]
  rw [e] at h
  refine Ev.congr (fun k => ?_) h
  simp only [impl_RangesOf.f]
  rw [inserted_law hr hl, Option.bind_some]
  show (impl_tellAll.f k _).bind _ = _
  simp only [impl_tellAll.f]
  cases impl_tellAll.l0 k [] ((setP (prs l)).map s48) (((setP (prs l)).map s48).length : Int) 0 <;> rfl
theorem set_same {l m : List S24} (hl : ∀ r ∈ l, rin r) (hm : ∀ r, r ∈ m ↔ r ∈ l) : setP (prs m) = setP (prs l) := by
  have hm' : ∀ r ∈ m, rin r := fun r h => hl r ((hm r).1 h)
  refine abv_ext _ _ _ _ (set_law hm').1 (set_law hl).1 fun z => ?_
  rw [(set_law hm').2.1, (set_law hl).2.1]
  unfold Byte prs
  constructor
  · rintro ⟨r, hx, h⟩
    obtain ⟨y, hy, rfl⟩ := List.mem_map.1 hx
    exact ⟨_, List.mem_map.2 ⟨y, (hm y).1 hy, rfl⟩, h⟩
  · rintro ⟨r, hx, h⟩
    obtain ⟨y, hy, rfl⟩ := List.mem_map.1 hx
    exact ⟨_, List.mem_map.2 ⟨y, (hm y).2 hy, rfl⟩, h⟩
theorem tmod_in {b : Int} {n : Nat} (hb : 0 ≤ b) (hn : 0 < n) : ∃ i : Nat, Int.tmod b (n : Int) = (i : Int) ∧ i < n := by
  refine ⟨(Int.tmod b n).toNat, ?_, ?_⟩
  · have := Int.tmod_nonneg (n : Int) hb; omega
  · have h1 := Int.tmod_lt_of_pos b (show (0 : Int) < n by omega)
    have := Int.tmod_nonneg (n : Int) hb; omega
section
variable {l : List S24} {sw : List Int} (hl : ∀ r ∈ l, rin r) (hll : l.length ≤ 60) (hsw : ∀ y ∈ sw, 0 ≤ y ∧ y ≤ 255) (hsl : sw.length ≤ 60)
include hl hll
theorem ord_j4 {o : List S24} (ho : ∀ r, r ∈ o ↔ r ∈ l) (hol : o.length ≤ 61) : Ev (fun k => laws_FnRangesOrder.j4 k l o) true := by
  have ho' : ∀ r ∈ o, rin r := fun r h => hl r ((ho r).1 h)
  refine Ev.step (f := fun k => (impl_RangesOf.f k l).bind fun t416 => (impl_RangesOf.f k o).bind fun t419 => (spec_RangesSame.f k t416 t419).bind fun t422 => if t422 = true then (impl_RangesEqual.f l o).bind fun t423 => some t423 else some false) (fun k => by simp only [laws_FnRangesOrder.j4]) ?_
  have hs := set_same hl ho
  refine Ev.bind (of_law hl (by omega)) (Ev.bind (of_law ho' (by omega)) (Ev.bind (same_law _ _ ?_) ?_))
  · have := (set_law hl).2.2.2; omega
  · rw [equal_law hl ho' (by omega) (by omega), hs]
    simp only [Option.bind_some, decide_true, if_true]
    exact Ev.now true
include hsw hsl
theorem ord_j3 {o : List S24} (ho : ∀ r, r ∈ o ↔ r ∈ l) (hol : o.length = l.length) : Ev (fun k => laws_FnRangesOrder.j3 k l sw o (decide (0 < l.length) && decide (0 < sw.length))) true := by
  by_cases hc : 0 < l.length ∧ 0 < sw.length
  · obtain ⟨h1, h2⟩ := hc
    rw [decide_eq_true h1, decide_eq_true h2]
    have hb := hsw _ (List.getElem_mem h2)
    obtain ⟨i, hi, hi'⟩ := tmod_in (b := sw[0]) hb.1 h1
    refine Ev.step (f := fun k => laws_FnRangesOrder.j4 k l (o ++ [l[i]])) (fun k => ?_) (ord_j4 (o := o ++ [l[i]]) hl hll ?_ (by rw [List.length_append, List.length_singleton]; omega))
    · show laws_FnRangesOrder.j3 (k + 1) l sw o (true && true) = laws_FnRangesOrder.j4 k l (o ++ [l[i]])
      simp only [laws_FnRangesOrder.j3, Bool.and_self, if_true]
      rw [if_pos (by omega), if_neg (by omega), show rd sw 0 = sw[0] from rdi h2, wrap64_id (by omega) (by omega), hi, if_pos (by omega), if_pos (by omega), if_pos (by omega), rd24 hi']
    · intro r
      simp only [List.mem_append, List.mem_singleton, ho]
      constructor
      · rintro (h | rfl)
        · exact h
        · exact List.getElem_mem _
      · exact .inl
  · have e : (decide (0 < l.length) && decide (0 < sw.length)) = false := by
      rw [Bool.and_eq_false_iff, decide_eq_false_iff_not, decide_eq_false_iff_not]
      omega
    rw [e]
    exact Ev.step (fun k => by simp only [laws_FnRangesOrder.j3]; exact if_neg (by decide)) (ord_j4 hl hll ho (by omega))
theorem ord_loop : ∀ (d i : Nat) (o : List S24), i + d = sw.length → o.Perm l → Ev (fun k => laws_FnRangesOrder.l0 k l sw o sw (sw.length : Int) (i : Int)) true
  | 0, i, o, h, ho => by
    have h1 := ord_j3 hl hll hsw hsl (o := o) (fun r => ho.mem_iff) ho.length_eq
    refine Ev.step (fun k => ?_) h1
    simp only [laws_FnRangesOrder.l0]
    rw [if_neg (by omega)]
    by_cases h2 : (l.length : Int) > 0
    · rw [if_pos h2, decide_eq_true (show 0 < l.length by omega), Bool.true_and]
      congr 1
      rw [decide_eq_decide]
      omega
    · rw [if_neg h2, decide_eq_false (show ¬ 0 < l.length by omega), Bool.false_and]
  | d + 1, i, o, h, ho => by
    have hi : i < sw.length := by omega
    have hlen := ho.length_eq
    by_cases h1 : (o.length : Int) > 1
    · have hb := hsw _ (List.getElem_mem hi)
      obtain ⟨a, ha, ha'⟩ := tmod_in (b := sw[i]) hb.1 (show 0 < o.length by omega)
      obtain ⟨b, hb1, hb'⟩ := tmod_in (b := (i : Int)) (by omega) (show 0 < o.length by omega)
      refine Ev.step (fun k => ?_) (ord_loop d (i + 1) ((o.set b o[a]).set a o[b]) (by omega) ((List.set_set_perm hb' ha').trans ho))
      simp only [laws_FnRangesOrder.l0]
      rw [if_pos (by omega), if_pos (by omega), if_pos (by omega), if_pos h1, if_neg (by omega), rdi hi, wrap64_id (by omega) (by omega), ha, hb1, if_pos (by omega), if_pos (by omega), if_pos (by omega), if_pos (by omega),
        rd24 ha', rd24 hb', w1 (by omega)]
      rfl
    · refine Ev.step (fun k => ?_) (ord_loop d (i + 1) o (by omega) ho)
      simp only [laws_FnRangesOrder.l0]
      rw [if_pos (by omega), if_pos (by omega), if_pos (by omega), if_neg h1, w1 (by omega)]
end
theorem FnRangesOrder : laws_FnRangesOrder.Pure := by
  intro l sw _ _ _ hw
  have hsw : ∀ y ∈ sw, 0 ≤ y ∧ y ≤ 255 := by
    intro y hy
    have := hw y hy
    simp [Lit.wf, IntKind.min, IntKind.max, IntKind.signed, IntKind.bits] at this
    omega
  have sk1 : Ev (fun k => laws_FnRangesOrder.j1 k l sw true) true := Ev.step (f := fun _ => some true) (fun k => by simp [laws_FnRangesOrder.j1]) (Ev.now _)
  have sk0 : Ev (fun k => laws_FnRangesOrder.j0 k l sw true) true := Ev.step (f := fun _ => some true) (fun k => by simp [laws_FnRangesOrder.j0]) (Ev.now _)
  suffices h : Ev (fun k => laws_FnRangesOrder.f k l sw) true from h.rounds
  by_cases h1 : (l.length : Int) > 2147483647
  · exact Ev.congr (fun k => by simp only [laws_FnRangesOrder.f]; exact if_pos h1) sk0
  · refine Ev.congr (f := fun k => laws_FnRangesOrder.j0 k l sw (decide ((sw.length : Int) > 2147483647))) (fun k => by simp only [laws_FnRangesOrder.f]; exact if_neg h1) ?_
    by_cases h2 : (sw.length : Int) > 2147483647
    · rw [decide_eq_true h2]; exact sk0
    · rw [decide_eq_false h2]
      refine Ev.step (fun k => by simp only [laws_FnRangesOrder.j0]; exact if_neg (by decide)) ?_
      obtain ⟨a, ha, ha'⟩ := rangesIn_law l (by omega)
      refine Ev.bind ha ?_
      cases a with
      | false => exact Ev.congr (fun k => if_neg (by decide)) sk1
      | true =>
        obtain ⟨a1, a2⟩ := ha' rfl
        refine Ev.congr (fun k => if_pos rfl) ?_
        by_cases h3 : (sw.length : Int) > 60
        · rw [decide_eq_true h3]; exact sk1
        · rw [decide_eq_false h3]
          refine Ev.step (fun k => by simp only [laws_FnRangesOrder.j1]; exact if_neg (by decide)) (awake_then ?_)
          refine Ev.congr (f := fun k => laws_FnRangesOrder.l0 k l sw l sw (sw.length : Int) ((0 : Nat) : Int)) (fun k => ?_) (ord_loop a1 a2 hsw (by omega) sw.length 0 l (by omega) (List.Perm.refl _))
          simp only [Option.bind_some]
          rw [if_pos (by simp; omega)]
          rfl
end Go.Proofs.Ytmkhkkfliecfdaa.Pure
