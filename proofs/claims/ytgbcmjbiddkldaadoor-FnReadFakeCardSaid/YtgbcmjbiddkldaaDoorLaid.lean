/- The condition that the variable io.EOF reads as the program's text lays it gives an error in its cell; a world that meets it. -/
import Derived.Test.YtgbcmjbiddkldaaDoorRows
import Derived.Test.YtgbcmjbiddkldaaDoorEr
import Derived.LaidLaws
import Derived.Stop.ErrReads
import Derived.ChangeVars
import Derived.JoinedOf
namespace Go.Proofs.YtgbcmjbiddkldaaDoor.Given
open Go.ChangeShapes Go.WideShapes Go.RowKit
set_option linter.unusedVariables false

theorem star : "*" ++ "errors.errorString" = "*errors.errorString" := by decide
theorem row94 (u : TypeId) (h : Tryd.prog.typeName? 3 u = some "*errors.errorString") : u = 94 :=
  typeName_ptr_named (nm := "errors.errorString") (by rw [star]; kernel_rfl) (by kernel_rfl) (by decide) u (by rw [star]; exact h)
theorem cells115 : Tryd.prog.cellsOf 115 = 1 := by kernel_rfl
theorem cells9 : Tryd.prog.cellsOf 9 = 1 := by kernel_rfl

set_option maxRecDepth 100000 in
theorem laidE_of {W : World} (h : laidMetH Tryd.prog Rows.fnReadFillRow.laid W) : ∃ a, LaidE W a W.heap.size := by
  have h' : laidMet Tryd.prog Rows.fnReadFillRow.laid W := h
  obtain ⟨ps, ⟨g0, t0, cs0, f0, p0, q0, hg0, ht0, hv0, hd0, hq0, e0⟩, hnd, hrows⟩ := h'
  obtain rfl : g0 = 0 := (Option.some.inj (hg0.symm.trans (by kernel_rfl)))
  obtain rfl : t0 = 64 := (Option.some.inj (ht0.symm.trans (by kernel_rfl)))
  have hq' : q0 = [] := hq0
  subst hq'
  subst e0
  obtain ⟨l0⟩ := cs0
  have ok0 : ∀ u v, l0 = [.iface u v] → Value.okWide Tryd.prog W .any 0 u v := fun u v e => by
    subst e
    exact (hrows 0 0 (by simp [MemPlace.row])).2 u v (by simpa using World.var?_cell hg0 hv0 0)
  obtain ⟨a0, s0, rfl, hc0, hs0, hz0, rfl⟩ := errorString_of_trod Tryd.underlying64 row94 Tryd.underlying94 Tryd.underlying115 rfl rfl Tryd.underlying9 cells115 cells9 hd0 ok0
  obtain ⟨c0, t0, hb0⟩ := (hrows a0.block a0.off (by simp [MemPlace.row])).1
  refine ⟨a0, ⟨c0, t0, hb0⟩, ?_, ltH hb0, Nat.lt_of_le_of_lt (Nat.zero_le _) (ltH hb0), Nat.le_refl _⟩
  unfold evA
  simpa using World.var?_cell hg0 hv0 0

abbrev msg : ByteArray := { data := #[69, 79, 70] }
noncomputable def low : Nat := (World.holding Tryd.prog default ⟨#[], #[], []⟩).heap.size
noncomputable def laidWorld (os : Os) : World :=
  let w0 := World.holding Tryd.prog os ⟨#[.cells #[.string msg] 115], #[], []⟩
  { w0 with heap := w0.heap.modify 0 fun
      | .cells _ t frozen => .cells #[.iface 94 (.pointer (some ⟨low, 0, none⟩))] t frozen
      | o => o }
theorem laidWorld_met (os : Os) (args : Array Value) : laidMetH Tryd.prog Rows.fnReadFillRow.laid ((laidWorld os).forCall (fun _ _ => 0) ⟨#[], args, []⟩).memory :=
  (show laidMet Tryd.prog Rows.fnReadFillRow.laid _ from laidMet_of_run (ps := [.cell 0 0, .cell low 0]) 8 (by kernel_rfl) (by kernel_rfl) (by kernel_rfl))
end Go.Proofs.YtgbcmjbiddkldaaDoor.Given
