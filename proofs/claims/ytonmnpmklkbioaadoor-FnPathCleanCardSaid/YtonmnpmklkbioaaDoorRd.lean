/- What an argument that can be read as data is, in the printer's kinds: integers, bools, strings, slices of readable elements, structs of readable fields. No conditions beyond those that each states. -/
import Derived.WalkKit
import Derived.ProofKit
import Derived.Deep.Slices
import Derived.Test.YtonmnpmklkbioaaDoorWWords
namespace Go.Proofs.YtonmnpmklkbioaaDoor.Rd
open Go.RowKit Go.Proofs.YtonmnpmklkbioaaDoorW.PrintWords
/-- Whatever reads as data of type t is cells of kind d, of something of which Q holds. -/
def Ok (P : Program) (t : TypeId) {α : Type} (d : Kd α) (Q : α → Prop) : Prop :=
  ∀ (H : Type) (enc : TypeId × Value → H) (w : World) (base : Nat) (spare : Nat → Bool) (held : Bool) (fuel : Nat) (cs : List Value) (x : DataW H × List MemPlace),
    DataW.trod enc P w base spare held fuel t cs = some x → ∃ y, d.K w y cs ∧ Q y
theorem ok_string {P : Program} {t : TypeId} (ht : P.underlying t = some .string) : Ok P t Kd.string (fun s => s.size ≤ maxLen) := by
  intro H enc w base spare held fuel cs x h
  obtain ⟨s, hcs, _, hs⟩ := DataW.trod_string ht h
  exact ⟨s, hcs, hs⟩
theorem cells_at {w : World} {base : Nat} {a : Addr} {n : Nat} {cs : List Value} (h : w.cells? base a n = some cs) : cs.length = n ∧ ∀ i u, cs[i]? = some u → w.cell? (a.add i) = some u := by
  obtain ⟨_, hl, hc⟩ := World.cells?_some h
  refine ⟨hl, fun i u hu => ?_⟩
  have hi := (List.getElem?_eq_some_iff.1 hu).1
  rw [hc i (by omega), hu]
theorem ok_slice {P : Program} {t e : TypeId} {α : Type} {d : Kd α} {Q : α → Prop} (ht : P.underlying t = some (.slice e)) (hsz : P.cellsOf e = d.sz) (he : Ok P e d Q) :
    Ok P t (Kd.slice e d) (fun xs => xs.length ≤ maxLen ∧ ∀ x ∈ xs, Q x) := by
  intro H enc w base spare held fuel cs x h
  rcases Deep.open_slice ht h with ⟨hcs, _⟩ | ⟨a, len, cap, m, n, D, Pl, hcs, _, hl, hm, hm', _, hel⟩
  · refine ⟨[], ⟨none, 0, hcs, by simp, rfl, by simp, fun h => by simp at h⟩, by simp [maxLen], by simp⟩
  · have hlm : len ≤ m := by rw [hm']; split <;> omega
    have hall : ∀ i, i < len → ∃ y c, c.length = d.sz ∧ d.K w y c ∧ Q y ∧ ∀ j u, c[j]? = some u → w.cell? (a.add (i * d.sz + j)) = some u := by
      intro i hi
      obtain ⟨c, hc, htr⟩ := hel i (by omega)
      obtain ⟨y, hK, hQ⟩ := he H enc w base spare held n c _ htr
      obtain ⟨hcl, hcc⟩ := cells_at hc
      refine ⟨y, c, by rw [hcl, hsz], hK, hQ, fun j u hu => ?_⟩
      have := hcc j u hu
      rwa [hsz, Deep.add_add] at this
    classical
    have hall' : ∀ i : Fin len, ∃ y, ∃ c, c.length = d.sz ∧ d.K w y c ∧ Q y ∧ ∀ j u, c[j]? = some u → w.cell? (a.add (i.1 * d.sz + j)) = some u := fun i => hall i.1 i.2
    obtain ⟨f, hf⟩ := Classical.axiomOfChoice hall'
    have hxl : (List.ofFn f).length = len := List.length_ofFn
    refine ⟨List.ofFn f, ⟨some a, cap, by rw [hcs, hxl], by rw [hxl]; exact hl, rfl, by rw [hxl]; unfold maxLen at hm; omega, fun _ => ⟨a, rfl, fun j p hp => ?_⟩⟩, by rw [hxl]; omega, fun y hy => ?_⟩
    · have hj : j < len := by
        have := (List.getElem?_eq_some_iff.1 hp).1
        omega
      have hfj : p = f ⟨j, hj⟩ := by
        rw [List.getElem?_ofFn] at hp
        simp [hj] at hp
        exact hp.symm
      subst hfj
      obtain ⟨c, h1, h2, _, h4⟩ := hf ⟨j, hj⟩
      exact ⟨c, h1, h2, h4⟩
    · obtain ⟨i, rfl⟩ := List.mem_ofFn.1 hy
      obtain ⟨c, _, _, h3, _⟩ := hf i
      exact h3
/-- A slice that came in. -/
theorem slice_in {P : Program} {t e : TypeId} {α : Type} {d : Kd α} {Q : α → Prop} (ht : P.underlying t = some (.slice e)) (hsz : P.cellsOf e = d.sz) (he : Ok P e d Q) {H : Type} {enc : TypeId × Value → H} {w : World} {base : Nat} {spare : Nat → Bool} {held : Bool}
    {a : Option Addr} {len cap : Nat} {dd : DataW H} {ps : List MemPlace} (h : DataW.Trod enc P w base spare held t (.slice a len cap) dd ps) :
    ∃ xs, len = xs.length ∧ xs.length ≤ cap ∧ Kd.C d w a xs.length xs ∧ xs.length ≤ maxLen ∧ ∀ x ∈ xs, Q x := by
  obtain ⟨fuel, hf⟩ := h
  obtain ⟨xs, ⟨A, c, hcs, hc, hC⟩, hl, hQ⟩ := ok_slice ht hsz he H enc w base spare held fuel _ _ hf
  simp [Value.cells] at hcs
  obtain ⟨rfl, rfl, rfl⟩ := hcs
  exact ⟨xs, rfl, hc, hC, hl, hQ⟩
end Go.Proofs.YtonmnpmklkbioaaDoor.Rd
