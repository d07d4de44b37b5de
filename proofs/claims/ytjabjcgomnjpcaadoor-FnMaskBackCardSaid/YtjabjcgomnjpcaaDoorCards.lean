/-
  DERIVED. GIVEN WITH THE SEED: THE CARDS: each row of YtjabjcgomnjpcaaDoorRows.lean that lists a variable, with what it lists TIED to the program's text (the seventh form; the later family's looks); each row that meets fmt, with fmt's text TOLD by the authors' own Lean function (tested against real Go, not proved from fmt's source: count such statements apart). THE CARD IS WHAT COUNTS. Prove the row's statement (the work); the ties are given (YtjabjcgomnjpcaaDoorTie.lean); close each card by the builder's one call (the guide's Derived/Test/ToyasCard.lean, 'card_holds'). Laid BY PROGRAM, IN A SANDBOX (cutbox-door.mjs). By AI agents, Wed Nov 11 2026. No macro, syntax, notation, axiom, sorry.
-/
import Derived.Test.YtjabjcgomnjpcaaDoorRows
import GoSem.ClaimSeven
namespace Go.Proofs.YtjabjcgomnjpcaaDoor
namespace Rows

/-- THE TIED CARD OF 'laws.FnMaskText'. -/
def fnMaskTextCard : Claim7 := { stood := { row := fnMaskTextRow, standIns := [], harness := (true, "9b4510a21cbf757563d449c3b3748f767775ce312a3c0b9d3af229a4446496d1"), looks := true }, kinds := [], alts := [], laidByText := true, laidKinds := [.data, .data, .data, .data, .pinned, .pinned], laidTests := true, laidLooks := .later }
def FnMaskTextCardSaid : Prop := Claim7.holds Tryd.pinned (.plain (OpenSpec.ofChange fnMaskTextSpec)) fnMaskTextCard

/-- THE TIED CARD OF 'laws.FnMaskUnion'. -/
def fnMaskUnionCard : Claim7 := { stood := { row := fnMaskUnionRow, standIns := [], harness := (true, "9b4510a21cbf757563d449c3b3748f767775ce312a3c0b9d3af229a4446496d1"), looks := true }, kinds := [], alts := [], laidByText := true, laidKinds := [.data, .data, .data, .data, .sentinel, .sentinel, .listed, .data, .pinned], laidTests := true, laidLooks := .later }
def FnMaskUnionCardSaid : Prop := Claim7.holds Tryd.pinned (.plain (OpenSpec.ofChange fnMaskUnionSpec)) fnMaskUnionCard

/-- THE TIED CARD OF 'laws.FnMaskBack'. -/
def fnMaskBackCard : Claim7 := { stood := { row := fnMaskBackRow, standIns := [], harness := (true, "9b4510a21cbf757563d449c3b3748f767775ce312a3c0b9d3af229a4446496d1"), looks := true }, kinds := [], alts := [], laidByText := true, laidKinds := [.data, .data, .data, .data, .sentinel, .sentinel, .listed, .data, .pinned, .pinned], laidTests := true, laidLooks := .later }
def FnMaskBackCardSaid : Prop := Claim7.holds Tryd.pinned (.plain (OpenSpec.ofChange fnMaskBackSpec)) fnMaskBackCard

/-- THE SECOND FORM's CARD OF 'laws.FnMaskText'. -/
def fnMaskTextUptoCard : Claim7 := { stood := { row := fnMaskTextUptoRow, standIns := [], harness := (true, "9b4510a21cbf757563d449c3b3748f767775ce312a3c0b9d3af229a4446496d1"), looks := true }, kinds := [], alts := [], laidByText := true, laidKinds := [.data, .data, .data, .data, .pinned, .pinned], laidTests := true, laidLooks := .later }
def FnMaskTextUptoCardSaid : Prop := Claim7.holds Tryd.pinned (.plain (OpenSpec.upto fnMaskTextSpec)) fnMaskTextUptoCard

/-- THE SECOND FORM's CARD OF 'laws.FnMaskUnion'. -/
def fnMaskUnionUptoCard : Claim7 := { stood := { row := fnMaskUnionUptoRow, standIns := [], harness := (true, "9b4510a21cbf757563d449c3b3748f767775ce312a3c0b9d3af229a4446496d1"), looks := true }, kinds := [], alts := [], laidByText := true, laidKinds := [.data, .data, .data, .data, .sentinel, .sentinel, .listed, .data, .pinned], laidTests := true, laidLooks := .later }
def FnMaskUnionUptoCardSaid : Prop := Claim7.holds Tryd.pinned (.plain (OpenSpec.upto fnMaskUnionSpec)) fnMaskUnionUptoCard

/-- THE SECOND FORM's CARD OF 'laws.FnMaskBack'. -/
def fnMaskBackUptoCard : Claim7 := { stood := { row := fnMaskBackUptoRow, standIns := [], harness := (true, "9b4510a21cbf757563d449c3b3748f767775ce312a3c0b9d3af229a4446496d1"), looks := true }, kinds := [], alts := [], laidByText := true, laidKinds := [.data, .data, .data, .data, .sentinel, .sentinel, .listed, .data, .pinned, .pinned], laidTests := true, laidLooks := .later }
def FnMaskBackUptoCardSaid : Prop := Claim7.holds Tryd.pinned (.plain (OpenSpec.upto fnMaskBackSpec)) fnMaskBackUptoCard
end Rows
end Go.Proofs.YtjabjcgomnjpcaaDoor
