/- The contract of a directory cache's method FlushDir: all paths that are a directory or below it go, and the IDs that they had. Up to 1,000,000 bytes a path. -/
import Derived.Test.YtkdmdoflfaldiaaMd
import Derived.Test.YtkdmdoflfaldiaaPDx1
import Derived.Maps.RangeWalk
namespace Go.Proofs.Ytkdmdoflfaldiaa.Given
open Go.RowKit Go.WideMaps Go.Maps Go.Proofs.YtkdmdoflfaldiaaW.PrintWords Go.Proofs.Ytkdmdoflfaldiaa.PD
set_option linter.unusedVariables false
set_option linter.unusedSimpArgs false

/-- s begins with p. -/
def pre (s p : ByteArray) : Bool := decide (p.size ≤ s.size) && (s.extract 0 p.size).toList == p.toList
theorem pre_is (s p : ByteArray) : strings_HasPrefix.f s p = some (pre s p) := by
  unfold strings_HasPrefix.f stringslite_HasPrefix.f pre
  by_cases h : (s.size : Int) ≥ (p.size : Int)
  · rw [if_pos h, if_pos (by omega), if_pos (by omega)]
    have h' : p.size ≤ s.size := by omega
    simp [h']
  · rw [if_neg h]
    have h' : ¬ p.size ≤ s.size := by omega
    simp [h']
def sl (d : ByteArray) : ByteArray := d ++ ⟨#[47]⟩
/-- s is d, or below it. -/
def bel (s d : ByteArray) : Bool := decide (s = d) || pre s (sl d)

open Classical in
noncomputable def flF (f : Fs) (d : ByteArray) : Fs := fun s => if bel s d = true then none else f s
open Classical in
noncomputable def flG (f g : Fs) (d : ByteArray) : Fs := fun i => if ∃ s, bel s d = true ∧ f s = some i then none else g i
open Classical in
noncomputable def cuF (f : Fs) (p : ByteArray) (left : Lit → Bool) : Fs := fun s => if pre s p = true ∧ left (kl s) = false then none else f s
open Classical in
noncomputable def cuG (f g : Fs) (p : ByteArray) (left : Lit → Bool) : Fs := fun i => if ∃ s, pre s p = true ∧ left (kl s) = false ∧ f s = some i then none else g i

theorem start_F {f : Fs} {p : ByteArray} {D : DataW Unit} (h : Says D f) : ∀ s, f s = cuF f p (Maps.has D) s := by
  intro s
  unfold cuF
  split
  · rename_i hc
    have h1 := (h s).1
    rw [hc.2] at h1
    cases hf : f s with
    | none => rfl
    | some v => rw [hf] at h1; cases h1
  · rfl
theorem start_G {f g : Fs} {p : ByteArray} {D : DataW Unit} (h : Says D f) : ∀ i, g i = cuG f g p (Maps.has D) i := by
  intro i
  unfold cuG
  split
  · rename_i hc
    obtain ⟨s, _, h2, h3⟩ := hc
    have h1 := (h s).1
    rw [h2, h3] at h1
    cases h1
  · rfl
theorem same_kl {a b : ByteArray} : (kl a).sameKey (kl b) = decide (a = b) := by
  by_cases h : a = b
  · subst h
    rw [decide_eq_true rfl]
    exact WideAt.sameKey_self klk
  · rw [decide_eq_false h]
    cases hs : (kl a).sameKey (kl b) with
    | false => rfl
    | true => exact absurd (kl_inj (WideAt.sameKey_eq hs)) h
/-- What an entry that has come holds. -/
theorem come {f : Fs} {p : ByteArray} {D : DataW Unit} {left : Lit → Bool} {x c : ByteArray} (h : Says D (cuF f p left)) (hl : left (kl x) = true) (hat : ∀ zd, D.atKey (kl x) zd = .lit (kl c)) (hlr : Maps.has D (kl x) = true) : f x = some c := by
  have h1 := (h x).1
  have h2 := (h x).2
  have e : cuF f p left x = f x := by
    unfold cuF
    rw [if_neg]
    rintro ⟨_, h3⟩
    rw [hl] at h3
    cases h3
  rw [e] at h1 h2
  rw [hlr] at h1
  rw [hat] at h2
  cases hf : f x with
  | none => rw [hf] at h1; cases h1
  | some v =>
    rw [hf] at h2
    injection h2 with h2
    rw [kl_inj h2]
    rfl
theorem strike_F {f : Fs} {p : ByteArray} {left : Lit → Bool} {x : ByteArray} (hp : pre x p = true) : ∀ s, del (cuF f p left) x s = cuF f p (fun z => left z && !z.sameKey (kl x)) s := by
  intro s
  unfold del cuF
  simp only [same_kl]
  by_cases e : s = x
  · subst e
    rw [if_pos rfl, if_pos ⟨hp, by simp⟩]
  · rw [if_neg e]
    simp [e]
theorem stay_F {f : Fs} {p : ByteArray} {left : Lit → Bool} {x : ByteArray} (hp : pre x p = false) : ∀ s, cuF f p left s = cuF f p (fun z => left z && !z.sameKey (kl x)) s := by
  intro s
  unfold cuF
  simp only [same_kl]
  by_cases e : s = x
  · subst e
    rw [if_neg (by rw [hp]; rintro ⟨h, _⟩; cases h), if_neg (by rw [hp]; rintro ⟨h, _⟩; cases h)]
  · simp [e]
theorem strike_G {f g : Fs} {p : ByteArray} {left : Lit → Bool} {x c : ByteArray} (hp : pre x p = true) (hx : f x = some c) : ∀ i, del (cuG f g p left) c i = cuG f g p (fun z => left z && !z.sameKey (kl x)) i := by
  intro i
  unfold del cuG
  by_cases e : i = c
  · subst e
    rw [if_pos rfl, if_pos ⟨x, hp, by simp [same_kl], hx⟩]
  · rw [if_neg e]
    by_cases h : ∃ s, pre s p = true ∧ left (kl s) = false ∧ f s = some i
    · rw [if_pos h]
      obtain ⟨s, h1, h2, h3⟩ := h
      rw [if_pos ⟨s, h1, by simp [h2], h3⟩]
    · rw [if_neg h, if_neg]
      rintro ⟨s, h1, h2, h3⟩
      simp only [same_kl] at h2
      by_cases es : s = x
      · subst es
        rw [hx] at h3
        exact e (Option.some.inj h3).symm
      · exact h ⟨s, h1, by simpa [es] using h2, h3⟩
theorem stay_G {f g : Fs} {p : ByteArray} {left : Lit → Bool} {x : ByteArray} (hp : pre x p = false) : ∀ i, cuG f g p left i = cuG f g p (fun z => left z && !z.sameKey (kl x)) i := by
  intro i
  unfold cuG
  by_cases h : ∃ s, pre s p = true ∧ left (kl s) = false ∧ f s = some i
  · rw [if_pos h]
    obtain ⟨s, h1, h2, h3⟩ := h
    rw [if_pos ⟨s, h1, by simp [h2], h3⟩]
  · rw [if_neg h, if_neg]
    rintro ⟨s, h1, h2, h3⟩
    simp only [same_kl] at h2
    by_cases es : s = x
    · subst es
      rw [hp] at h1
      cases h1
    · exact h ⟨s, h1, by simpa [es] using h2, h3⟩
theorem end_F {f : Fs} {d : ByteArray} {left : Lit → Bool} (hl : ∀ k, left k = false) : ∀ s, cuF (del f d) (sl d) left s = flF f d s := by
  intro s
  unfold cuF flF del bel
  by_cases e : s = d
  · simp [e]
  · simp [e, hl]
theorem end_G {f g : Fs} {d : ByteArray} {left : Lit → Bool} (hl : ∀ k, left k = false) : ∀ i, cuG (del f d) (match f d with | some i => del g i | none => g) (sl d) left i = flG f g d i := by
  intro i
  unfold flG
  by_cases h : ∃ s, bel s d = true ∧ f s = some i
  · rw [if_pos h]
    obtain ⟨s, h1, h2⟩ := h
    unfold cuG
    by_cases e : s = d
    · subst e
      split
      · rfl
      · rw [h2]
        simp [del]
    · rw [if_pos]
      refine ⟨s, ?_, hl _, ?_⟩
      · simpa [bel, e] using h1
      · simp [del, e, h2]
  · rw [if_neg h]
    unfold cuG
    rw [if_neg]
    · cases hf : f d with
      | none => rfl
      | some j =>
        simp only [del]
        rw [if_neg]
        intro e
        exact h ⟨d, by simp [bel], by rw [hf, e]⟩
    · rintro ⟨s, h1, _, h3⟩
      unfold del at h3
      by_cases e : s = d
      · rw [if_pos e] at h3; cases h3
      · rw [if_neg e] at h3
        exact h ⟨s, by simp [bel, h1], h3⟩

theorem MapOf.drop {w : World} {b n : Nat} {f : Fs} (h : MapOf w b n f) (s : ByteArray) (hs : s.size ≤ maxLen) (ty : TypeId) :
    ∃ w', (Builtin.delete_ #[60, 9] ty #[.map (some b), .string s]).run Try.prog w = .ok (.tuple #[]) w' ∧ MapOf w' b n (del f s) ∧ w.grownBy w' (some b) := by
  obtain ⟨D, ho, hf⟩ := h
  obtain ⟨w', h1, h2, h3⟩ := ho.drop law9 Try.underlying60 (keyOf_string_mk Try.underlying9 hs) ty
  exact ⟨w', h1, ⟨_, h2, hf.del s⟩, h3.grown⟩
end Go.Proofs.Ytkdmdoflfaldiaa.Given
