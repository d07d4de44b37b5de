/- The condition of the row gives what the laws' walks ask: the two errors of strconv and the table of white space lie in their variables. -/
import Derived.Test.YtjabjcgomnjpcaaDoorMw
import Derived.Test.YtjabjcgomnjpcaaDoorRows
import Derived.LaidLaws
import Derived.Stop.ErrReads
import Derived.ChangeVars
import Derived.JoinedOf
import Derived.PinnedBridge
import Derived.Lib.LaidU8
import Derived.Lib.LaidTab
namespace Go.Proofs.YtjabjcgomnjpcaaDoor.Given
open Go.RowKit
set_option linter.unusedVariables false

theorem space_is : (Rows.laid_strings_asciiSpace : DataW Unit) = Lib.tabData .u8 Lib.asciiSpaceTab := by kernel_rfl
theorem ev_of {W : World} {l : List (String × DataW Unit)} (h : laidMet Tryd.prog l W) (h1 : ("strconv.ErrSyntax", (Rows.laid_strconv_ErrSyntax : DataW Unit)) ∈ l) (h2 : ("strconv.ErrRange", (Rows.laid_strconv_ErrRange : DataW Unit)) ∈ l) (h3 : ("strings.asciiSpace", (Rows.laid_strings_asciiSpace : DataW Unit)) ∈ l) : Ev W := by
  refine ⟨?_, ?_, ?_⟩
  · obtain ⟨g0, t0, cs0, f0, p0, hg0, ht0, hv0, hd0⟩ := Lib.laidMet.reads h h1
    obtain rfl : g0 = 4 := (Option.some.inj (hg0.symm.trans (by kernel_rfl)))
    obtain rfl : t0 = 39 := (Option.some.inj (ht0.symm.trans (by kernel_rfl)))
    obtain ⟨l0⟩ := cs0
    obtain ⟨f1, u, v, hl, hn, _⟩ := iface_of_trod Tryd.underlying39 hd0
    refine ⟨u, v, ?_⟩
    have hl' : l0 = [.iface u v] := hl
    subst hl'
    simpa using World.var?_cell hg0 hv0 0
  · obtain ⟨g0, t0, cs0, f0, p0, hg0, ht0, hv0, hd0⟩ := Lib.laidMet.reads h h2
    obtain rfl : g0 = 5 := (Option.some.inj (hg0.symm.trans (by kernel_rfl)))
    obtain rfl : t0 = 39 := (Option.some.inj (ht0.symm.trans (by kernel_rfl)))
    obtain ⟨l0⟩ := cs0
    obtain ⟨f1, u, v, hl, hn, _⟩ := iface_of_trod Tryd.underlying39 hd0
    refine ⟨u, v, ?_⟩
    have hl' : l0 = [.iface u v] := hl
    subst hl'
    simpa using World.var?_cell hg0 hv0 0
  · obtain ⟨g0, t0, cs0, f0, p0, hg0, ht0, hv0, hd0⟩ := Lib.laidMet.reads h h3
    obtain rfl : g0 = 0 := (Option.some.inj (hg0.symm.trans (by kernel_rfl)))
    obtain rfl : t0 = 66 := (Option.some.inj (ht0.symm.trans (by kernel_rfl)))
    rw [space_is] at hd0
    unfold Lib.TabIs
    rw [hv0, ← Lib.cells_of_tab (n := 256) (e := 5) (by kernel_rfl) (by kernel_rfl) (by kernel_rfl) (by kernel_rfl) hd0]
end Go.Proofs.YtjabjcgomnjpcaaDoor.Given
