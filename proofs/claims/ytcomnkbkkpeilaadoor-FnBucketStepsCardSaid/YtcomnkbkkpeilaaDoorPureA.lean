/- Plain facts on the laws on buckets: what the printed helpers answer. No conditions beyond those that each states. -/
import Derived.Test.YtcomnkbkkpeilaaDoorPAx2
import Derived.Test.YtcomnkbkkpeilaaDoorSteps
import Derived.Test.YtcomnkbkkpeilaaDoorPl
namespace Go.Proofs.YtcomnkbkkpeilaaDoor.Given
open Go.RowKit Go.Proofs.YtcomnkbkkpeilaaDoorW.PrintWords Go.Proofs.YtcomnkbkkpeilaaDoor.PA Go.Proofs.YtcomnkbkkpeilaaDoor.Pl
set_option linter.unusedVariables false
set_option linter.unusedSimpArgs false

theorem fits_loop (l : List S28) (hl : l.length ≤ 9223372036854775807) : ∀ (m i K : Nat), i + m = l.length → m < K → ∃ b, laws_zzFits1.l0 K l l.length i = some b
  | 0, i, K, h, hK => by
    obtain ⟨K, rfl⟩ : ∃ q, K = q + 1 := ⟨K - 1, by omega⟩
    refine ⟨true, ?_⟩
    simp only [laws_zzFits1.l0]
    rw [if_neg (by omega)]
  | m + 1, i, K, h, hK => by
    obtain ⟨K, rfl⟩ : ∃ q, K = q + 1 := ⟨K - 1, by omega⟩
    have hw : wrap64 ((i : Int) + 1) = ((i + 1 : Nat) : Int) := by rw [wrap64_id (by omega) (by omega)]; omega
    obtain ⟨b, hb⟩ := fits_loop l hl m (i + 1) K (by omega) (by omega)
    simp only [laws_zzFits1.l0]
    rw [if_pos (by omega), if_pos (by omega), if_pos (by omega), hw, hb]
    unfold laws_zzFits2.f
    split
    · exact ⟨false, rfl⟩
    · exact ⟨b, rfl⟩
theorem fits_some (l : List S28) (hl : l.length ≤ 9223372036854775807) : ∃ b, laws_zzFits1.f (l.length + 1) l = some b := by
  unfold laws_zzFits1.f
  split
  · exact ⟨_, rfl⟩
  · exact fits_loop l hl l.length 0 (l.length + 1) (by omega) (by omega)
theorem in_loop (l : List S28) (hl : l.length ≤ 9223372036854775807) : ∀ (m i K : Nat), i + m = l.length → m < K → ∃ b, laws_bucketIn.l0 K l l l.length i = some b ∧ (b = true → l.length ≤ 60 ∧ ∀ s ∈ l.drop i, 0 ≤ s.f0 ∧ s.f0 ≤ 4 ∧ s.f1.size ≤ 100)
  | 0, i, K, h, hK => by
    obtain ⟨K, rfl⟩ : ∃ q, K = q + 1 := ⟨K - 1, by omega⟩
    refine ⟨decide ((l.length : Int) ≤ 60), ?_, ?_⟩
    · simp only [laws_bucketIn.l0]
      rw [if_neg (by omega)]
    · intro hb
      have := of_decide_eq_true hb
      rw [List.drop_eq_nil_of_le (by omega)]
      exact ⟨by omega, by simp⟩
  | m + 1, i, K, h, hK => by
    obtain ⟨K, rfl⟩ : ∃ q, K = q + 1 := ⟨K - 1, by omega⟩
    have hi : i < l.length := by omega
    have hw : wrap64 ((i : Int) + 1) = ((i + 1 : Nat) : Int) := by rw [wrap64_id (by omega) (by omega)]; omega
    have hr : rd_T28 l (i : Int) = l[i] := by simp [rd_T28, hi]
    obtain ⟨b, hb, hq⟩ := in_loop l hl m (i + 1) K (by omega) (by omega)
    simp only [laws_bucketIn.l0]
    rw [if_pos (by omega), if_pos (by omega), if_pos (by omega), hw, hb, hr]
    by_cases c1 : l[i].f0 < 0
    · rw [if_pos c1]; exact ⟨false, rfl, fun h => by cases h⟩
    rw [if_neg c1]
    by_cases c2 : l[i].f0 > 4
    · rw [if_pos c2]; exact ⟨false, rfl, fun h => by cases h⟩
    rw [if_neg c2]
    by_cases c3 : (l[i].f1.size : Int) > 100
    · rw [if_pos c3]; exact ⟨false, rfl, fun h => by cases h⟩
    rw [if_neg c3]
    refine ⟨b, rfl, fun h => ⟨(hq h).1, ?_⟩⟩
    rw [List.drop_eq_getElem_cons hi]
    intro s hs
    rcases List.mem_cons.1 hs with rfl | hs
    · exact ⟨by omega, by omega, by omega⟩
    · exact (hq h).2 s hs
theorem in_some (l : List S28) (hl : l.length ≤ 9223372036854775807) : ∃ b, laws_bucketIn.f (l.length + 1) l = some b ∧ (b = true → l.length ≤ 60 ∧ ∀ s ∈ l, 0 ≤ s.f0 ∧ s.f0 ≤ 4 ∧ s.f1.size ≤ 100) := by
  obtain ⟨b, h1, h2⟩ := in_loop l hl l.length 0 (l.length + 1) (by omega) (by omega)
  exact ⟨b, h1, by simpa using h2⟩
theorem same_loop (x : List S30) (hl : x.length ≤ 9223372036854775807) : ∀ (m i K : Nat), i + m = x.length → m < K → laws_bucketSame.l0 K x x x.length i = some true
  | 0, i, K, h, hK => by
    obtain ⟨K, rfl⟩ : ∃ q, K = q + 1 := ⟨K - 1, by omega⟩
    simp only [laws_bucketSame.l0]
    rw [if_neg (by omega)]
  | m + 1, i, K, h, hK => by
    obtain ⟨K, rfl⟩ : ∃ q, K = q + 1 := ⟨K - 1, by omega⟩
    have hw : wrap64 ((i : Int) + 1) = ((i + 1 : Nat) : Int) := by rw [wrap64_id (by omega) (by omega)]; omega
    have ih := same_loop x hl m (i + 1) K (by omega) (by omega)
    simp only [laws_bucketSame.l0]
    rw [if_pos (by omega), if_pos (by omega), if_pos (by omega), hw, ih]
    have hi : i < x.length := by omega
    simp [hi]
theorem same_some (x : List S30) (hl : x.length ≤ 9223372036854775807) : laws_bucketSame.f (x.length + 1) x x = some true := by
  unfold laws_bucketSame.f
  rw [if_pos rfl]
  exact same_loop x hl x.length 0 (x.length + 1) (by omega) (by omega)

theorem impl_is (l : List S28) (h1 : l.length ≤ 60) (h2 : ∀ s ∈ l, s.f1.size ≤ 100) : impl_BucketSteps.f l = some (runB (fun _ => none) l) := by
  unfold impl_BucketSteps.f
  rw [if_pos ⟨by omega, List.all_eq_true.2 fun s hs => decide_eq_true (by have := h2 s hs; omega)⟩]
theorem awake_is : laws_bucketAwake.f = some true := by
  unfold laws_bucketAwake.f
  rw [impl_is _ (by decide) (by simp; decide)]
  rfl

def keepB (s : S28) : Bool := !(s.f1.toList.isEmpty) && s.f0 != 2
def selA : List S28 → List S30 → List S30
  | s :: l, x :: r => if keepB s then x :: selA l r else selA l r
  | _, _ => []
theorem step_none (f : ByteArray → Option Bool) (s : S28) (h : f ⟨#[]⟩ = none) : (stepB f s).1 ⟨#[]⟩ = none := by
  have hu : ∀ g : ByteArray → Option Bool, ∀ b v, b ≠ ⟨#[]⟩ → g ⟨#[]⟩ = none → upd g b v ⟨#[]⟩ = none := fun g b v hb hg => by
    unfold upd
    rw [if_neg (fun e => hb e.symm)]
    exact hg
  unfold stepB crF
  repeat' split
  all_goals first
    | exact h
    | exact hu _ _ _ (by assumption) h
    | exact hu _ _ _ (by assumption) (hu _ _ _ (by assumption) h)
theorem step_idle (f : ByteArray → Option Bool) (s : S28) (h : keepB s = false) : (stepB f s).1 = f := by
  unfold keepB at h
  rw [Bool.and_eq_false_iff] at h
  rcases h with h | h
  · have hb : s.f1 = ⟨#[]⟩ := by
      have h1 : s.f1.toList = [] := by
        cases hl : s.f1.toList with
        | nil => rfl
        | cons a b => rw [hl] at h; cases h
      exact size_nil.1 (tl_nil.1 h1)
    unfold stepB crF
    rw [if_pos hb, if_pos hb, if_pos hb]
    repeat' split
    all_goals rfl
  · have hb : s.f0 = 2 := by simpa using h
    unfold stepB
    rw [if_neg (by omega), if_neg (by omega), if_pos hb]
theorem step_zero (f : ByteArray → Option Bool) (s : S28) (h : f ⟨#[]⟩ = none) (hb : s.f1 = ⟨#[]⟩) : (stepB f s).2 = z30 := by
  unfold stepB crF
  rw [hb, h]
  repeat' split
  all_goals first | rfl | simp_all
theorem run_sel : ∀ (l : List S28) (f : ByteArray → Option Bool), f ⟨#[]⟩ = none → runB f (l.filter keepB) = selA l (runB f l)
  | [], f, _ => rfl
  | s :: l, f, h => by
    have h1 := run_sel l (stepB f s).1 (step_none f s h)
    cases hk : keepB s with
    | true =>
      rw [List.filter_cons_of_pos hk]
      simp only [runB, selA, hk, if_true]
      rw [h1]
    | false =>
      rw [List.filter_cons_of_neg (by rw [hk]; decide)]
      simp only [runB, selA, hk, Bool.false_eq_true, if_false]
      rw [step_idle f s hk] at h1 ⊢
      exact h1
end Go.Proofs.YtcomnkbkkpeilaaDoor.Given
