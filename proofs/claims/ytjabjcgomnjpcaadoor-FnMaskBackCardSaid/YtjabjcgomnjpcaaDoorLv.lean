/- The condition of the row gives what the walk of FnMaskText asks: the table that says where a bit stands. -/
import Derived.Test.YtjabjcgomnjpcaaDoorMf
import Derived.Test.YtjabjcgomnjpcaaDoorRows
import Derived.LaidLaws
import Derived.ChangeVars
import Derived.JoinedOf
import Derived.PinnedBridge
import Derived.Lib.LaidU8
import Derived.Lib.LaidTab
namespace Go.Proofs.YtjabjcgomnjpcaaDoor.Given
open Go.RowKit
set_option linter.unusedVariables false

def bitTab : List Int := [0, 1, 56, 2, 57, 49, 28, 3, 61, 58, 42, 50, 38, 29, 17, 4, 62, 47, 59, 36, 45, 43, 51, 22, 53, 39, 33, 30, 24, 18, 12, 5, 63, 55, 48, 27, 60, 41, 37, 16, 46, 35, 44, 21, 52, 32, 23, 11, 54, 26, 40, 15, 34, 20, 31, 10, 25, 14, 19, 9, 13, 8, 7, 6]
theorem bits_is : (Rows.laid_math_bits_deBruijn64tab : DataW Unit) = Lib.tabData .u8 bitTab := by kernel_rfl
theorem dv_of {W : World} {l : List (String × DataW Unit)} (h : laidMet Tryd.prog l W) (h1 : ("math/bits.deBruijn64tab", (Rows.laid_math_bits_deBruijn64tab : DataW Unit)) ∈ l) : Dv W := by
  obtain ⟨g0, t0, cs0, f0, p0, hg0, ht0, hv0, hd0⟩ := Lib.laidMet.reads h h1
  obtain rfl : g0 = 10 := (Option.some.inj (hg0.symm.trans (by kernel_rfl)))
  obtain rfl : t0 = 134 := (Option.some.inj (ht0.symm.trans (by kernel_rfl)))
  rw [bits_is] at hd0
  have hT : Lib.TabIs Tryd.prog W "math/bits.deBruijn64tab" .u8 bitTab := by
    unfold Lib.TabIs
    rw [hv0, ← Lib.cells_of_tab (n := 64) (e := 5) (by kernel_rfl) (by kernel_rfl) (by kernel_rfl) (by kernel_rfl) hd0]
  exact hT.cell hg0 15 (by decide)
end Go.Proofs.YtjabjcgomnjpcaaDoor.Given
