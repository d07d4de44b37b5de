/- The condition that the two tables of unicode/utf8 read as the program's text lays them gives what Encode's walk asks. -/
import Derived.Test.YtonmnpmklkbioaaDoorRows
import Derived.Test.YtonmnpmklkbioaaDoorLe
import Derived.PinnedBridge
import Derived.Lib.LaidU8
namespace Go.Proofs.YtonmnpmklkbioaaDoor.Given
open Go.RowKit
set_option linter.unusedVariables false

theorem xU : Go.Proofs.U8Extra Tryd.prog Laid.L_n197_ren := ⟨by kernel_rfl, by kernel_rfl, by kernel_rfl, by kernel_rfl, by kernel_rfl, by kernel_rfl, by kernel_rfl⟩
theorem accept_is : (Rows.laid_unicode_utf8_acceptRanges : DataW Unit) = Lib.acceptData := by kernel_rfl
theorem first_is : Rows.laid_unicode_utf8_first = Lib.firstData := Pinned.utf8First_eq
theorem tabs_of {W : World} {l : List (String × DataW Unit)} (h : laidMet Tryd.prog l W) (h1 : ("unicode/utf8.first", Rows.laid_unicode_utf8_first) ∈ l) (h2 : ("unicode/utf8.acceptRanges", (Rows.laid_unicode_utf8_acceptRanges : DataW Unit)) ∈ l) : Tabs W :=
  Go.Proofs.utf8Tabs_of_reads { Laid.L_n197 with } xU (by rw [← first_is]; exact Lib.laidMet.reads h h1) (by rw [← accept_is]; exact Lib.laidMet.reads h h2)
end Go.Proofs.YtonmnpmklkbioaaDoor.Given
