/-
  DERIVED. GIVEN WITH THE SEED: THE CARDS: each row of YtkdmdoflfaldiaaDoorRows.lean that lists a variable, with what it lists TIED to the program's text (the seventh form; the later family's looks); each row that meets fmt, with fmt's text TOLD by the authors' own Lean function (tested against real Go, not proved from fmt's source: count such statements apart). THE CARD IS WHAT COUNTS. Prove the row's statement (the work); the ties are given (YtkdmdoflfaldiaaDoorTie.lean); close each card by the builder's one call (the guide's Derived/Test/ToyasCard.lean, 'card_holds'). Laid BY PROGRAM, IN A SANDBOX (cutbox-door.mjs). By AI agents, Wed Nov 11 2026. No macro, syntax, notation, axiom, sorry.
-/
import Derived.Test.YtkdmdoflfaldiaaDoorRows
import GoSem.ClaimSeven
namespace Go.Proofs.YtkdmdoflfaldiaaDoor
namespace Rows

/-- THE TIED CARD OF 'laws.FnContentRange'. -/
def fnContentRangeCard : Claim7 := { stood := { row := fnContentRangeRow, standIns := [], harness := (true, "4482cb4fbf3023635f3f956e4aac45ea02ffe44e16eb18de732dd5aa01b164cd"), looks := true }, kinds := [], alts := [], laidByText := true, laidKinds := [.data, .data, .data, .sentinel, .sentinel], laidTests := true, laidLooks := .later }
def FnContentRangeCardSaid : Prop := Claim7.holds Tryd.pinned (.plain (OpenSpec.ofChange fnContentRangeSpec)) fnContentRangeCard

/-- THE SECOND FORM's CARD OF 'laws.FnContentRange'. -/
def fnContentRangeUptoCard : Claim7 := { stood := { row := fnContentRangeUptoRow, standIns := [], harness := (true, "4482cb4fbf3023635f3f956e4aac45ea02ffe44e16eb18de732dd5aa01b164cd"), looks := true }, kinds := [], alts := [], laidByText := true, laidKinds := [.data, .data, .data, .sentinel, .sentinel], laidTests := true, laidLooks := .later }
def FnContentRangeUptoCardSaid : Prop := Claim7.holds Tryd.pinned (.plain (OpenSpec.upto fnContentRangeSpec)) fnContentRangeUptoCard
end Rows
end Go.Proofs.YtkdmdoflfaldiaaDoor
