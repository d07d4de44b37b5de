/- The condition that the variable ErrAlreadyDeleted reads as the program's text lays it gives an error in its cell; a world that meets it. -/
import Derived.Test.YtcomnkbkkpeilaaDoorRows
import Derived.Test.YtcomnkbkkpeilaaDoorSteps
import Derived.LaidLaws
import Derived.Stop.ErrReads
import Derived.ChangeVars
import Derived.JoinedOf
namespace Go.Proofs.YtcomnkbkkpeilaaDoor.Given
open Go.ChangeShapes Go.WideShapes Go.RowKit
set_option linter.unusedVariables false

theorem star : "*" ++ "errors.errorString" = "*errors.errorString" := by decide
theorem row56 (u : TypeId) (h : Tryd.prog.typeName? 3 u = some "*errors.errorString") : u = 56 :=
  typeName_ptr_named (nm := "errors.errorString") (by rw [star]; kernel_rfl) (by kernel_rfl) (by decide) u (by rw [star]; exact h)
theorem cells58 : Tryd.prog.cellsOf 58 = 1 := by kernel_rfl
theorem cells9 : Tryd.prog.cellsOf 9 = 1 := by kernel_rfl

theorem laidE_of {W : World} (h : laidMetH Tryd.prog Rows.fnBucketAsksRow.laid W) : LaidE W := by
  have h' : laidMet Tryd.prog Rows.fnBucketAsksRow.laid W := h
  obtain ⟨ps, ⟨g0, t0, cs0, f0, p0, q0, hg0, ht0, hv0, hd0, hq0, e0⟩, hnd, hrows⟩ := h'
  obtain rfl : g0 = 0 := (Option.some.inj (hg0.symm.trans (by kernel_rfl)))
  obtain rfl : t0 = 41 := (Option.some.inj (ht0.symm.trans (by kernel_rfl)))
  have hq' : q0 = [] := hq0
  subst hq'
  subst e0
  obtain ⟨l0⟩ := cs0
  have ok0 : ∀ u v, l0 = [.iface u v] → Value.okWide Tryd.prog W .any 0 u v := fun u v e => by
    subst e
    exact (hrows 0 0 (by simp [MemPlace.row])).2 u v (by simpa using World.var?_cell hg0 hv0 0)
  obtain ⟨a0, s0, rfl, hc0, hs0, hz0, rfl⟩ := errorString_of_trod Tryd.underlying41 row56 Tryd.underlying56 Tryd.underlying58 rfl rfl Tryd.underlying9 cells58 cells9 hd0 ok0
  obtain ⟨c0, t0, hb0⟩ := (hrows a0.block a0.off (by simp [MemPlace.row])).1
  refine ⟨a0, ⟨c0, t0, hb0⟩, ?_⟩
  unfold evA
  simpa using World.var?_cell hg0 hv0 0

abbrev msg : ByteArray := { data := #[98, 117, 99, 107, 101, 116, 32, 97, 108, 114, 101, 97, 100, 121, 32, 100, 101, 108, 101, 116, 101, 100] }
noncomputable def low : Nat := (World.holding Tryd.prog default ⟨#[], #[], []⟩).heap.size
noncomputable def laidWorld (os : Os) : World :=
  let w0 := World.holding Tryd.prog os ⟨#[.cells #[.string msg] 58], #[], []⟩
  { w0 with heap := w0.heap.modify 0 fun
      | .cells _ t frozen => .cells #[.iface 56 (.pointer (some ⟨low, 0, none⟩))] t frozen
      | o => o }
theorem laidWorld_met (os : Os) (args : Array Value) : laidMetH Tryd.prog Rows.fnBucketAsksRow.laid ((laidWorld os).forCall (fun _ _ => 0) ⟨#[], args, []⟩).memory :=
  (show laidMet Tryd.prog Rows.fnBucketAsksRow.laid _ from laidMet_of_run (ps := [.cell 0 0, .cell low 0]) 8 (by kernel_rfl) (by kernel_rfl) (by kernel_rfl))
end Go.Proofs.YtcomnkbkkpeilaaDoor.Given
