/- What an argument that can be read as data is, in the printer's kinds: integers, bools, strings, slices of readable elements, structs of readable fields. No conditions beyond those that each states. -/
import Derived.WalkKit
import Derived.ProofKit
import Derived.Deep.Slices
import Derived.Test.YtjabjcgomnjpcaaDoorWWords
namespace Go.Proofs.YtjabjcgomnjpcaaDoor.Rd
open Go.RowKit Go.Proofs.YtjabjcgomnjpcaaDoorW.PrintWords

/-- Whatever reads as data of type t is cells of kind d, of something of which Q holds. -/
def Ok (P : Program) (t : TypeId) {α : Type} (d : Kd α) (Q : α → Prop) : Prop :=
  ∀ (H : Type) (enc : TypeId × Value → H) (w : World) (base : Nat) (spare : Nat → Bool) (held : Bool) (fuel : Nat) (cs : List Value) (x : DataW H × List MemPlace),
    DataW.trod enc P w base spare held fuel t cs = some x → ∃ y, d.K w y cs ∧ Q y

theorem ok_int {P : Program} {t : TypeId} {k : IntKind} (ht : P.underlying t = some (.int k)) : Ok P t (Kd.int k) (fun n => (Lit.int k n).wf = true) := by
  intro H enc w base spare held fuel cs x h
  obtain ⟨n, hcs, _, hw⟩ := DataW.trod_int ht h
  exact ⟨n, hcs, hw⟩
theorem ok_bool {P : Program} {t : TypeId} (ht : P.underlying t = some .bool) : Ok P t Kd.bool (fun _ => True) := by
  intro H enc w base spare held fuel cs x h
  obtain ⟨b, hcs, _⟩ := DataW.trod_bool ht h
  exact ⟨b, hcs, trivial⟩
theorem ok_string {P : Program} {t : TypeId} (ht : P.underlying t = some .string) : Ok P t Kd.string (fun s => s.size ≤ maxLen) := by
  intro H enc w base spare held fuel cs x h
  obtain ⟨s, hcs, _, hs⟩ := DataW.trod_string ht h
  exact ⟨s, hcs, hs⟩

theorem cells_at {w : World} {base : Nat} {a : Addr} {n : Nat} {cs : List Value} (h : w.cells? base a n = some cs) : cs.length = n ∧ ∀ i u, cs[i]? = some u → w.cell? (a.add i) = some u := by
  obtain ⟨_, hl, hc⟩ := World.cells?_some h
  refine ⟨hl, fun i u hu => ?_⟩
  have hi := (List.getElem?_eq_some_iff.1 hu).1
  rw [hc i (by omega), hu]

theorem ok_slice {P : Program} {t e : TypeId} {α : Type} {d : Kd α} {Q : α → Prop} (ht : P.underlying t = some (.slice e)) (hsz : P.cellsOf e = d.sz) (he : Ok P e d Q) :
    Ok P t (Kd.slice e d) (fun xs => xs.length ≤ maxLen ∧ ∀ x ∈ xs, Q x) := by
  intro H enc w base spare held fuel cs x h
  rcases Deep.open_slice ht h with ⟨hcs, _⟩ | ⟨a, len, cap, m, n, D, Pl, hcs, _, hl, hm, hm', _, hel⟩
  · refine ⟨[], ⟨none, 0, hcs, by simp, rfl, by simp, fun h => by simp at h⟩, by simp [maxLen], by simp⟩
  · have hlm : len ≤ m := by rw [hm']; split <;> omega
    have hall : ∀ i, i < len → ∃ y c, c.length = d.sz ∧ d.K w y c ∧ Q y ∧ ∀ j u, c[j]? = some u → w.cell? (a.add (i * d.sz + j)) = some u := by
      intro i hi
      obtain ⟨c, hc, htr⟩ := hel i (by omega)
      obtain ⟨y, hK, hQ⟩ := he H enc w base spare held n c _ htr
      obtain ⟨hcl, hcc⟩ := cells_at hc
      refine ⟨y, c, by rw [hcl, hsz], hK, hQ, fun j u hu => ?_⟩
      have := hcc j u hu
      rwa [hsz, Deep.add_add] at this
    classical
    have hall' : ∀ i : Fin len, ∃ y, ∃ c, c.length = d.sz ∧ d.K w y c ∧ Q y ∧ ∀ j u, c[j]? = some u → w.cell? (a.add (i.1 * d.sz + j)) = some u := fun i => hall i.1 i.2
    obtain ⟨f, hf⟩ := Classical.axiomOfChoice hall'
    have hxl : (List.ofFn f).length = len := List.length_ofFn
    refine ⟨List.ofFn f, ⟨some a, cap, by rw [hcs, hxl], by rw [hxl]; exact hl, rfl, by rw [hxl]; unfold maxLen at hm; omega, fun _ => ⟨a, rfl, fun j p hp => ?_⟩⟩, by rw [hxl]; omega, fun y hy => ?_⟩
    · have hj : j < len := by
        have := (List.getElem?_eq_some_iff.1 hp).1
        omega
      have hfj : p = f ⟨j, hj⟩ := by
        rw [List.getElem?_ofFn] at hp
        simp [hj] at hp
        exact hp.symm
      subst hfj
      obtain ⟨c, h1, h2, _, h4⟩ := hf ⟨j, hj⟩
      exact ⟨c, h1, h2, h4⟩
    · obtain ⟨i, rfl⟩ := List.mem_ofFn.1 hy
      obtain ⟨c, _, _, h3, _⟩ := hf i
      exact h3

/-- The fields fs of a struct, that lie from cell off on. -/
def OkF (P : Program) (fs : List Field) (off n : Nat) {α : Type} (d : Kd α) (Q : α → Prop) : Prop :=
  ∀ (H : Type) (enc : TypeId × Value → H) (w : World) (base : Nat) (spare : Nat → Bool) (held : Bool) (fuel : Nat) (cs : List Value),
    cs.length = off + n →
    (∀ f ∈ fs, ∃ x, DataW.trod enc P w base spare held fuel f.type ((cs.drop f.offset).take (P.cellsOf f.type)) = some x) → ∃ y, d.K w y (cs.drop off) ∧ Q y
theorem okf_one {P : Program} {f : Field} {off n : Nat} {α : Type} {d : Kd α} {Q : α → Prop} (ho : f.offset = off) (hn : P.cellsOf f.type = n) (h : Ok P f.type d Q) : OkF P [f] off n d Q := by
  intro H enc w base spare held fuel cs hl hf
  obtain ⟨x, hx⟩ := hf f (List.mem_singleton.2 rfl)
  rw [ho, hn, List.take_of_length_le (by rw [List.length_drop]; omega)] at hx
  exact h H enc w base spare held fuel _ x hx
theorem okf_cons {P : Program} {f : Field} {fs : List Field} {off n m : Nat} {α β : Type} {d : Kd α} {d' : Kd β} {Q : α → Prop} {Q' : β → Prop}
    (ho : f.offset = off) (hn : P.cellsOf f.type = n) (h : Ok P f.type d Q) (hr : OkF P fs (off + n) m d' Q') : OkF P (f :: fs) off (n + m) (Kd.pair d d') (fun y => Q y.1 ∧ Q' y.2) := by
  intro H enc w base spare held fuel cs hl hf
  obtain ⟨x, hx⟩ := hf f List.mem_cons_self
  rw [ho, hn] at hx
  obtain ⟨y, hK, hQ⟩ := h H enc w base spare held fuel _ x hx
  obtain ⟨y', hK', hQ'⟩ := hr H enc w base spare held fuel cs (by omega) (fun g hg => hf g (List.mem_cons_of_mem _ hg))
  refine ⟨(y, y'), ⟨(cs.drop off).take n, cs.drop (off + n), ?_, hK, hK'⟩, hQ, hQ'⟩
  rw [← List.drop_drop, List.take_append_drop]
theorem ok_struct {P : Program} {t : TypeId} {fs : Array Field} {n : Nat} {α β : Type} {d : Kd α} {Q : α → Prop} (ht : P.underlying t = some (.struct fs)) (hc : P.cellsOf t = n) (h : OkF P fs.toList 0 n d Q)
    (f : β → α) (g : α → β) (hg : ∀ x, f (g x) = x) : Ok P t (Kd.iso d f) (fun y => Q (f y)) := by
  intro H enc w base spare held fuel cs x hx
  obtain ⟨xs, m, rfl, _, hl, hxs, hf⟩ := DataW.trod_struct ht hx
  obtain ⟨y, hK, hQ⟩ := h H enc w base spare held m cs (by omega) (fun fd hfd => by
    obtain ⟨i, hi⟩ := List.mem_iff_getElem?.1 hfd
    have h1 := hf i fd (by rw [← Array.getElem?_toList]; exact hi)
    have h2 : i < xs.length := by
      rw [hxs, ← Array.length_toList]
      exact (List.getElem?_eq_some_iff.1 hi).1
    exact ⟨xs[i], by rw [h1, List.getElem?_eq_getElem h2]⟩)
  refine ⟨g y, ?_, ?_⟩
  · show d.K w (f (g y)) cs
    rw [hg]
    simpa using hK
  · show Q (f (g y))
    rw [hg]; exact hQ

/-- A slice that came in. -/
theorem slice_in {P : Program} {t e : TypeId} {α : Type} {d : Kd α} {Q : α → Prop} (ht : P.underlying t = some (.slice e)) (hsz : P.cellsOf e = d.sz) (he : Ok P e d Q) {H : Type} {enc : TypeId × Value → H} {w : World} {base : Nat} {spare : Nat → Bool} {held : Bool}
    {a : Option Addr} {len cap : Nat} {dd : DataW H} {ps : List MemPlace} (h : DataW.Trod enc P w base spare held t (.slice a len cap) dd ps) :
    ∃ xs, len = xs.length ∧ xs.length ≤ cap ∧ Kd.C d w a xs.length xs ∧ xs.length ≤ maxLen ∧ ∀ x ∈ xs, Q x := by
  obtain ⟨fuel, hf⟩ := h
  obtain ⟨xs, ⟨A, c, hcs, hc, hC⟩, hl, hQ⟩ := ok_slice ht hsz he H enc w base spare held fuel _ _ hf
  simp [Value.cells] at hcs
  obtain ⟨rfl, rfl, rfl⟩ := hcs
  exact ⟨xs, rfl, hc, hC, hl, hQ⟩
/-- A struct that came in by value. -/
theorem struct_in {P : Program} {t : TypeId} {fs : Array Field} {α : Type} {d : Kd α} {Q : α → Prop} (ht : P.underlying t = some (.struct fs)) (hok : Ok P t d Q) {H : Type} {enc : TypeId × Value → H} {w : World} {base b0 : Nat} {spare : Nat → Bool} {held : Bool} {r : Reach}
    {v : Value} {dd : DataW H} {ps : List MemPlace} (hv : Value.okWide P w r b0 t v) (h : DataW.Trod enc P w base spare held t v dd ps) :
    ∃ cs y, v = .agg cs ∧ d.K w y cs.toList ∧ Q y := by
  obtain ⟨cs, rfl, _⟩ := WideShapes.okWide_struct ht hv
  obtain ⟨fuel, hf⟩ := h
  obtain ⟨y, hK, hQ⟩ := hok H enc w base spare held fuel _ _ hf
  exact ⟨cs, y, rfl, hK, hQ⟩
theorem arr_of {cs : Array Value} {l : List Value} (h : cs.toList = l) : cs = l.toArray := by rw [← h]
end Go.Proofs.YtjabjcgomnjpcaaDoor.Rd
