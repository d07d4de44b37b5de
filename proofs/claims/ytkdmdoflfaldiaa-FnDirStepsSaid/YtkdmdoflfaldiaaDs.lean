/- The pure side of spec.Dirs: lists of pairs without a key, and what is found of a key; the printed functions over them. -/
import Derived.Test.YtkdmdoflfaldiaaDt
import Derived.Test.YtkdmdoflfaldiaaPl
namespace Go.Proofs.Ytkdmdoflfaldiaa.Given
open Go.RowKit Go.WideMaps Go.Maps Go.Proofs.YtkdmdoflfaldiaaW.PrintWords Go.Proofs.Ytkdmdoflfaldiaa.PD Go.Proofs.Ytkdmdoflfaldiaa.Pl
set_option linter.unusedVariables false
set_option linter.unusedSimpArgs false

def wo (l : List S31) (k : ByteArray) : List S31 := l.filter (fun p => decide (p.f0 ≠ k))
def fd : List S31 → ByteArray → Option ByteArray
  | [], _ => none
  | p :: r, k => if p.f0 = k then some p.f1 else fd r k
theorem wo_le (l : List S31) (k : ByteArray) : (wo l k).length ≤ l.length := List.length_filter_le _ _

theorem wo_loop (k : ByteArray) (l : List S31) (hl : l.length ≤ 1000000) : ∀ (m i K : Nat) (acc : List S31), i + m = l.length → m < K → acc.length ≤ i → spec_without.l0 K k acc l l.length i = some (acc ++ wo (l.drop i) k)
  | 0, i, K, acc, h, hK, ha => by
    obtain ⟨K, rfl⟩ : ∃ q, K = q + 1 := ⟨K - 1, by omega⟩
    simp only [spec_without.l0]
    rw [if_neg (by omega), List.drop_eq_nil_of_le (by omega)]
    simp [wo]
  | m + 1, i, K, acc, h, hK, ha => by
    obtain ⟨K, rfl⟩ : ∃ q, K = q + 1 := ⟨K - 1, by omega⟩
    have hi : i < l.length := by omega
    have hw : wrap64 ((i : Int) + 1) = ((i + 1 : Nat) : Int) := by rw [wrap64_id (by omega) (by omega)]; omega
    have hr : rd_T31 l (i : Int) = l[i] := by simp [rd_T31, hi]
    simp only [spec_without.l0]
    rw [if_pos (by omega), if_pos (by omega), if_pos (by omega), hw, hr, List.drop_eq_getElem_cons hi]
    obtain ⟨p, hp⟩ : ∃ p, l[i] = p := ⟨_, rfl⟩
    rw [hp]
    clear hr hp
    by_cases c1 : p.f0 = k
    · rw [if_pos (tl_inj.2 c1), wo_loop k l hl m (i + 1) K acc (by omega) (by omega) (by omega)]
      simp [wo, c1]
    · rw [if_neg (fun e => c1 (tl_inj.1 e)), if_pos (by omega), wo_loop k l hl m (i + 1) K _ (by omega) (by omega) (by simp; omega)]
      simp [wo, c1]
theorem wo_is (k : ByteArray) (l : List S31) (hl : l.length ≤ 1000000) : spec_without.f (l.length + 1) l k = some (wo l k) := by
  have := wo_loop k l hl l.length 0 (l.length + 1) [] (by omega) (by omega) (by simp)
  simp only [List.drop_zero, List.nil_append] at this
  exact this
theorem fd_loop (k : ByteArray) (l : List S31) (hl : l.length ≤ 1000000) : ∀ (m i K : Nat), i + m = l.length → m < K → spec_find.l0 K k l l.length i = some ((fd (l.drop i) k).getD ⟨#[]⟩, (fd (l.drop i) k).isSome)
  | 0, i, K, h, hK => by
    obtain ⟨K, rfl⟩ : ∃ q, K = q + 1 := ⟨K - 1, by omega⟩
    simp only [spec_find.l0]
    rw [if_neg (by omega), List.drop_eq_nil_of_le (by omega)]
    rfl
  | m + 1, i, K, h, hK => by
    obtain ⟨K, rfl⟩ : ∃ q, K = q + 1 := ⟨K - 1, by omega⟩
    have hi : i < l.length := by omega
    have hw : wrap64 ((i : Int) + 1) = ((i + 1 : Nat) : Int) := by rw [wrap64_id (by omega) (by omega)]; omega
    have hr : rd_T31 l (i : Int) = l[i] := by simp [rd_T31, hi]
    simp only [spec_find.l0]
    rw [if_pos (by omega), if_pos (by omega), if_pos (by omega), hw, hr, List.drop_eq_getElem_cons hi]
    obtain ⟨p, hp⟩ : ∃ p, l[i] = p := ⟨_, rfl⟩
    rw [hp]
    clear hr hp
    by_cases c1 : p.f0 = k
    · rw [if_pos (tl_inj.2 c1)]
      simp [fd, c1]
    · rw [if_neg (fun e => c1 (tl_inj.1 e)), fd_loop k l hl m (i + 1) K (by omega) (by omega)]
      simp [fd, c1]
theorem fd_is (k : ByteArray) (l : List S31) (hl : l.length ≤ 1000000) : spec_find.f (l.length + 1) l k = some ((fd l k).getD ⟨#[]⟩, (fd l k).isSome) := by
  have := fd_loop k l hl l.length 0 (l.length + 1) (by omega) (by omega)
  simp only [List.drop_zero] at this
  exact this

/-- s is d, or begins with d and a slash. -/
def bl (s d : ByteArray) : Bool := decide (s = d) || decide (s.size > d.size ∧ s.extract 0 d.size = d ∧ bt s (d.size : Int) = 47)
theorem bl_is (s d : ByteArray) : spec_below.f s d = some (bl s d) := by
  unfold spec_below.f bl
  by_cases c1 : s = d
  · subst c1
    rw [if_pos rfl]
    simp
  · rw [if_neg (fun e => c1 (tl_inj.1 e))]
    by_cases c2 : (s.size : Int) > d.size
    · rw [if_pos c2, if_pos (by omega), if_pos (by omega)]
      simp only [Int.toNat_natCast]
      by_cases c3 : s.extract 0 d.size = d
      · rw [if_pos (tl_inj.2 c3), if_pos (by omega)]
        have c2' : s.size > d.size := by omega
        simp only [c1, c2', c3, decide_false, Bool.false_or, true_and]
        by_cases c4 : bt s (d.size : Int) = 47
        · simp [c4]
        · simp [c4]
      · rw [if_neg (fun e => c3 (tl_inj.1 e))]
        simp [c1, c3]
    · rw [if_neg c2]
      have c2' : ¬ s.size > d.size := by omega
      simp [c1]
      intro h
      exact absurd h c2'

def cells31 (x : S31) : List Value := [.string x.f0, .string x.f1]
def flat31 (l : List S31) : List Value := (l.map cells31).flatten
theorem flat31_snoc (l : List S31) (x : S31) : flat31 (l ++ [x]) = flat31 l ++ cells31 x := by simp [flat31]
theorem reps31 (w : World) (base : Nat) (ok : Nat → Prop) : ∀ l : List S31, Reps (k31.M w base ok) 2 l (flat31 l)
  | [] => Reps.none _ _
  | x :: l => by
    have h := Reps.c2 (k31_mkM w base ok x) (reps31 w base ok l)
    exact h
theorem row31 {w : World} {base : Nat} {v : Value} {l : List S31} (h : w.ownsRow base 31 2 v l.length (flat31 l)) : Kd.R k31 31 w base (fun _ => True) v l := ⟨fun _ _ => trivial, flat31 l, h, reps31 _ _ _ _⟩
end Go.Proofs.Ytkdmdoflfaldiaa.Given
