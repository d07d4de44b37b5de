/- The condition of the row gives what the law's walk asks: the two errors of strconv lie in their variables. -/
import Derived.Test.YtkdmdoflfaldiaaDoorCp
import Derived.Test.YtkdmdoflfaldiaaDoorRows
import Derived.LaidLaws
import Derived.Stop.ErrReads
import Derived.ChangeVars
import Derived.JoinedOf
import Derived.PinnedBridge
import Derived.Lib.LaidU8
namespace Go.Proofs.YtkdmdoflfaldiaaDoor.Given
open Go.RowKit
set_option linter.unusedVariables false

theorem ev_of {W : World} {l : List (String × DataW Unit)} (h : laidMet Tryd.prog l W) (h1 : ("strconv.ErrSyntax", (Rows.laid_strconv_ErrSyntax : DataW Unit)) ∈ l) (h2 : ("strconv.ErrRange", (Rows.laid_strconv_ErrRange : DataW Unit)) ∈ l) : Ev W := by
  constructor
  · obtain ⟨g0, t0, cs0, f0, p0, hg0, ht0, hv0, hd0⟩ := Lib.laidMet.reads h h1
    obtain rfl : g0 = 0 := (Option.some.inj (hg0.symm.trans (by kernel_rfl)))
    obtain rfl : t0 = 29 := (Option.some.inj (ht0.symm.trans (by kernel_rfl)))
    obtain ⟨l0⟩ := cs0
    obtain ⟨f1, u, v, hl, hn, _⟩ := iface_of_trod Tryd.underlying29 hd0
    refine ⟨u, v, ?_⟩
    have hl' : l0 = [.iface u v] := hl
    subst hl'
    simpa using World.var?_cell hg0 hv0 0
  · obtain ⟨g0, t0, cs0, f0, p0, hg0, ht0, hv0, hd0⟩ := Lib.laidMet.reads h h2
    obtain rfl : g0 = 1 := (Option.some.inj (hg0.symm.trans (by kernel_rfl)))
    obtain rfl : t0 = 29 := (Option.some.inj (ht0.symm.trans (by kernel_rfl)))
    obtain ⟨l0⟩ := cs0
    obtain ⟨f1, u, v, hl, hn, _⟩ := iface_of_trod Tryd.underlying29 hd0
    refine ⟨u, v, ?_⟩
    have hl' : l0 = [.iface u v] := hl
    subst hl'
    simpa using World.var?_cell hg0 hv0 0
end Go.Proofs.YtkdmdoflfaldiaaDoor.Given
