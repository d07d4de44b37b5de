/- Maps of strings to bools that a call makes, as functions; what stays when a map and one more block are written. No conditions beyond those that each states. -/
import Derived.Test.YtcomnkbkkpeilaaDoorProg
import Derived.WalkKit
import Derived.WalkSpells
import Derived.WalkLawsBesides
import Derived.Lib.Hide
import Derived.Lib.OthersKept
import Derived.Maps.Own
import Derived.Maps.OwnSet
import Derived.Maps.Views
import Derived.Deep.DeepMust
import Derived.Deep.LoopGhost
import Derived.BigQuiet
import Derived.Shelf.GgClosure.Gives
namespace Go.Proofs.YtcomnkbkkpeilaaDoor.Given
open Go.RowKit Go.WideMaps Go.Maps
set_option linter.unusedVariables false
set_option linter.unusedSimpArgs false

theorem law9 : Keyed Tryd.prog 9 := string_keyed Tryd.underlying9
theorem zero4 (w : World) : (zeroValue 4).run Tryd.prog w = .ok (.bool false) w := by kernel_rfl
def kl (s : ByteArray) : Lit := .string s.data.toList
theorem klk {s : ByteArray} : WideAt.IsKeyLit (kl s) := by unfold kl; simp [WideAt.IsKeyLit]
theorem kl_inj {a b : ByteArray} (h : kl a = kl b) : a = b := by
  unfold kl at h
  injection h with h
  exact ByteArray.ext (Array.toList_inj.1 h)
theorem key_ok (s : ByteArray) (hs : s.size ≤ 1000000) : keyOf Tryd.prog 9 (.string s) = some (kl s) := keyOf_string_mk Tryd.underlying9 (by unfold maxLen; omega)

def upd (f : ByteArray → Option Bool) (s : ByteArray) (v : Bool) : ByteArray → Option Bool := fun x => if x = s then some v else f x

/-- Block b of w is a map of at most n entries, that says of each key what f says. -/
def MapOf (w : World) (b n : Nat) (f : ByteArray → Option Bool) : Prop :=
  ∃ D : DataW Unit, w.ownsMap Tryd.prog 9 (plainElem Tryd.prog 4) b n D ∧ ∀ s, Maps.has D (kl s) = (f s).isSome ∧ D.atKey (kl s) (.lit (.bool false)) = .lit (.bool ((f s).getD false))

theorem plainElem_bool_inv {v : Value} {z : DataW Unit × List MemPlace} (h : plainElem Tryd.prog 4 v = some z) : ∃ a, v = .bool a ∧ z = (.lit (.bool a), []) := by
  unfold plainElem at h
  rw [Tryd.underlying4] at h
  cases v <;> simp at h
  subst h
  exact ⟨_, rfl, rfl⟩

theorem MapOf.look {w : World} {b n : Nat} {f : ByteArray → Option Bool} (h : MapOf w b n f) (s : ByteArray) (hs : s.size ≤ 1000000) :
    (Instr.lookup 53 (.map (some b)) (.string s) true).run Tryd.prog w = .ok (.tuple #[.bool ((f s).getD false), .bool (f s).isSome]) w := by
  obtain ⟨D, ho, hf⟩ := h
  obtain ⟨v, ps, hrun, hv⟩ := ho.look_ok (t := 53) law9 Tryd.underlying53 (zero4 w) (plainElem_bool Tryd.underlying4 false) (key_ok s hs)
  obtain ⟨a, rfl, ha⟩ := plainElem_bool_inv hv
  have h1 := congrArg Prod.fst ha
  simp only at h1
  rw [(hf s).2] at h1
  injection h1 with h1
  injection h1 with h1
  rw [hrun, (hf s).1, h1]

theorem MapOf.upd {w : World} {b n : Nat} {f : ByteArray → Option Bool} (h : MapOf w b n f) (hn : n ≤ 1000000) (s : ByteArray) (hs : s.size ≤ 1000000) (v : Bool) :
    ∃ w', (Instr.mapUpdate 53 (.map (some b)) (.string s) (.bool v)).run Tryd.prog w = .ok () w' ∧ MapOf w' b (n + 1) (upd f s v) ∧ w.grownBy w' (some b) := by
  obtain ⟨D, ho, hf⟩ := h
  obtain ⟨w', hrun, ho', hg⟩ := ho.update (t := 53) law9 Tryd.underlying53 (by unfold maxLen; omega) (key_ok s hs) (plainElem_bool Tryd.underlying4 v)
  refine ⟨w', hrun, ⟨_, ho', ?_⟩, hg⟩
  have hm := ho.isMap
  intro x
  show _ = (if x = s then some v else f x).isSome ∧ _ = DataW.lit (.bool ((if x = s then some v else f x).getD false))
  by_cases e : x = s
  · subst e
    rw [if_pos rfl, Maps.has_put_same hm klk, Maps.atKey_put_same hm klk]
    exact ⟨rfl, rfl⟩
  · have hne : kl x ≠ kl s := fun h => e (kl_inj h)
    rw [if_neg e, Maps.has_put_other hne, Maps.atKey_put_other hne]
    exact hf x
theorem MapOf.kept {w w' : World} {b n : Nat} {f : ByteArray → Option Bool} (h : MapOf w b n f) (hb : w'.heap[b]? = w.heap[b]?) : MapOf w' b n f := by
  obtain ⟨D, ⟨es, clock, h1, h2⟩, hf⟩ := h
  exact ⟨D, ⟨es, clock, hb.trans h1, h2⟩, hf⟩
theorem MapOf.mono {w : World} {b n n' : Nat} {f : ByteArray → Option Bool} (h : MapOf w b n f) (hn : n ≤ n') : MapOf w b n' f := by
  obtain ⟨D, h1, hf⟩ := h
  exact ⟨D, h1.mono hn, hf⟩
theorem MapOf.lt {w : World} {b n : Nat} {f : ByteArray → Option Bool} (h : MapOf w b n f) : b < w.heap.size := by
  obtain ⟨D, h1, hf⟩ := h
  exact h1.lt
theorem MapOf.made (w : World) : MapOf (w.alloc (.map #[] 0)) w.heap.size 0 (fun _ => none) :=
  ⟨_, World.ownsMap_made _ _ _ _, fun s => ⟨rfl, rfl⟩⟩

/-- All blocks but A and m stay. -/
structure Keep (A m : Nat) (w w' : World) : Prop where
  os : w'.os = w.os
  tape : w'.tape = w.tape
  output : w'.output = w.output
  size : w.heap.size ≤ w'.heap.size
  block : ∀ k, k < w.heap.size → k ≠ A → k ≠ m → w'.heap[k]? = w.heap[k]?
theorem Keep.refl (A m : Nat) (w : World) : Keep A m w w := ⟨rfl, rfl, rfl, Nat.le_refl _, fun _ _ _ _ => rfl⟩
theorem Keep.trans {A m : Nat} {a b c : World} (h : Keep A m a b) (k : Keep A m b c) : Keep A m a c :=
  ⟨k.os.trans h.os, k.tape.trans h.tape, k.output.trans h.output, Nat.le_trans h.size k.size, fun i hi h1 h2 => (k.block i (Nat.lt_of_lt_of_le hi h.size) h1 h2).trans (h.block i hi h1 h2)⟩
theorem Keep.grown {A m : Nat} {a b : World} (h : a.grownBy b (some m)) : Keep A m a b :=
  ⟨h.os, h.tape, h.output, h.size, fun k hk _ h2 => h.block k hk (fun e => h2 (Option.some.inj e))⟩
theorem pwb (q : Nat) (w : World) : Below w.heap.size w (w.drewN q) := below_drewN' (Below.refl _ _) q
theorem Keep.drewN (A m : Nat) (w : World) (q : Nat) : Keep A m w (w.drewN q) := by
  have h := pwb q w
  exact ⟨h.os, h.tape, h.output, h.size, fun k hk _ _ => h.block k hk⟩
theorem Keep.setCell (A m j : Nat) (w : World) (v : Value) : Keep A m w (w.setCell ⟨A, j, none⟩ v) := by
  refine ⟨rfl, rfl, rfl, ?_, ?_⟩
  · simp
  · intro k hk h1 h2
    exact Below.heap_setCell w _ v k h1
end Go.Proofs.YtcomnkbkkpeilaaDoor.Given
