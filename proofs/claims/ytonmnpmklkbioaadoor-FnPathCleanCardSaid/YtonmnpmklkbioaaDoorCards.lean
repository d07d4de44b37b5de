/-
  DERIVED. GIVEN WITH THE SEED: THE CARDS: each row of YtonmnpmklkbioaaDoorRows.lean that lists a variable, with what it lists TIED to the program's text (the seventh form; the later family's looks); each row that meets fmt, with fmt's text TOLD by the authors' own Lean function (tested against real Go, not proved from fmt's source: count such statements apart). THE CARD IS WHAT COUNTS. Prove the row's statement (the work); the ties are given (YtonmnpmklkbioaaDoorTie.lean); close each card by the builder's one call (the guide's Derived/Test/ToyasCard.lean, 'card_holds'). Laid BY PROGRAM, IN A SANDBOX (cutbox-door.mjs). By AI agents, Wed Nov 11 2026. No macro, syntax, notation, axiom, sorry.
-/
import Derived.Test.YtonmnpmklkbioaaDoorRows
import GoSem.ClaimSeven
namespace Go.Proofs.YtonmnpmklkbioaaDoor
namespace Rows

/-- THE TIED CARD OF 'laws.FnNameBits'. -/
def fnNameBitsCard : Claim7 := { stood := { row := fnNameBitsRow, standIns := [], harness := (true, "307755f1b36559ee3e17ae4caccfed44933f50be6752a6bfa2eaf3d0a85a524c"), looks := true }, kinds := [], alts := [], laidByText := true, laidKinds := [.data, .sentinel, .pinned], laidTests := true, laidLooks := .later }
def FnNameBitsCardSaid : Prop := Claim7.holds Tryd.pinned (.plain (OpenSpec.ofChange fnNameBitsSpec)) fnNameBitsCard

/-- THE TIED CARD OF 'laws.FnNameEncode'. -/
def fnNameEncodeCard : Claim7 := { stood := { row := fnNameEncodeRow, standIns := [], harness := (true, "307755f1b36559ee3e17ae4caccfed44933f50be6752a6bfa2eaf3d0a85a524c"), looks := true }, kinds := [], alts := [], laidByText := true, laidKinds := [.data, .sentinel, .pinned], laidTests := true, laidLooks := .later }
def FnNameEncodeCardSaid : Prop := Claim7.holds Tryd.pinned (.plain (OpenSpec.ofChange fnNameEncodeSpec)) fnNameEncodeCard

/-- THE TIED CARD OF 'laws.FnNameJoin'. -/
def fnNameJoinCard : Claim7 := { stood := { row := fnNameJoinRow, standIns := [], harness := (true, "307755f1b36559ee3e17ae4caccfed44933f50be6752a6bfa2eaf3d0a85a524c"), looks := true }, kinds := [], alts := [], laidByText := true, laidKinds := [.data, .sentinel, .pinned], laidTests := true, laidLooks := .later }
def FnNameJoinCardSaid : Prop := Claim7.holds Tryd.pinned (.plain (OpenSpec.ofChange fnNameJoinSpec)) fnNameJoinCard

/-- THE TIED CARD OF 'laws.FnNameAgain'. -/
def fnNameAgainCard : Claim7 := { stood := { row := fnNameAgainRow, standIns := [], harness := (true, "307755f1b36559ee3e17ae4caccfed44933f50be6752a6bfa2eaf3d0a85a524c"), looks := true }, kinds := [], alts := [], laidByText := true, laidKinds := [.data, .data, .data, .data, .sentinel, .sentinel, .sentinel, .pinned], laidTests := true, laidLooks := .later }
def FnNameAgainCardSaid : Prop := Claim7.holds Tryd.pinned (.plain (OpenSpec.ofChange fnNameAgainSpec)) fnNameAgainCard

/-- THE TIED CARD OF 'laws.FnNameBack'. -/
def fnNameBackCard : Claim7 := { stood := { row := fnNameBackRow, standIns := [], harness := (true, "307755f1b36559ee3e17ae4caccfed44933f50be6752a6bfa2eaf3d0a85a524c"), looks := true }, kinds := [], alts := [], laidByText := true, laidKinds := [.data, .data, .data, .data, .sentinel, .sentinel, .sentinel, .pinned], laidTests := true, laidLooks := .later }
def FnNameBackCardSaid : Prop := Claim7.holds Tryd.pinned (.plain (OpenSpec.ofChange fnNameBackSpec)) fnNameBackCard

/-- THE TIED CARD OF 'laws.FnNameStays'. -/
def fnNameStaysCard : Claim7 := { stood := { row := fnNameStaysRow, standIns := [], harness := (true, "307755f1b36559ee3e17ae4caccfed44933f50be6752a6bfa2eaf3d0a85a524c"), looks := true }, kinds := [], alts := [], laidByText := true, laidKinds := [.data, .data, .data, .data, .sentinel, .sentinel, .sentinel, .pinned], laidTests := true, laidLooks := .later }
def FnNameStaysCardSaid : Prop := Claim7.holds Tryd.pinned (.plain (OpenSpec.ofChange fnNameStaysSpec)) fnNameStaysCard

/-- THE TIED CARD OF 'laws.FnNameFrom'. -/
def fnNameFromCard : Claim7 := { stood := { row := fnNameFromRow, standIns := [], harness := (true, "307755f1b36559ee3e17ae4caccfed44933f50be6752a6bfa2eaf3d0a85a524c"), looks := true }, kinds := [], alts := [], laidByText := true, laidKinds := [.data, .data, .data, .data, .sentinel, .sentinel, .sentinel, .pinned], laidTests := true, laidLooks := .later }
def FnNameFromCardSaid : Prop := Claim7.holds Tryd.pinned (.plain (OpenSpec.ofChange fnNameFromSpec)) fnNameFromCard

/-- THE TIED CARD OF 'laws.FnNameAny'. -/
def fnNameAnyCard : Claim7 := { stood := { row := fnNameAnyRow, standIns := [], harness := (true, "307755f1b36559ee3e17ae4caccfed44933f50be6752a6bfa2eaf3d0a85a524c"), looks := true }, kinds := [], alts := [], laidByText := true, laidKinds := [.data, .data, .data, .data, .sentinel, .sentinel, .sentinel, .pinned], laidTests := true, laidLooks := .later }
def FnNameAnyCardSaid : Prop := Claim7.holds Tryd.pinned (.plain (OpenSpec.ofChange fnNameAnySpec)) fnNameAnyCard

/-- THE TIED CARD OF 'laws.FnPathFrom'. -/
def fnPathFromCard : Claim7 := { stood := { row := fnPathFromRow, standIns := [], harness := (true, "307755f1b36559ee3e17ae4caccfed44933f50be6752a6bfa2eaf3d0a85a524c"), looks := true }, kinds := [], alts := [], laidByText := true, laidKinds := [.data, .data, .data, .data, .sentinel, .sentinel, .sentinel, .pinned], laidTests := true, laidLooks := .later }
def FnPathFromCardSaid : Prop := Claim7.holds Tryd.pinned (.plain (OpenSpec.ofChange fnPathFromSpec)) fnPathFromCard

/-- THE TIED CARD OF 'laws.FnPathClean'. -/
def fnPathCleanCard : Claim7 := { stood := { row := fnPathCleanRow, standIns := [], harness := (true, "307755f1b36559ee3e17ae4caccfed44933f50be6752a6bfa2eaf3d0a85a524c"), looks := true }, kinds := [], alts := [], laidByText := true, laidKinds := [.data, .data, .data, .data, .sentinel, .sentinel, .sentinel, .pinned], laidTests := true, laidLooks := .later }
def FnPathCleanCardSaid : Prop := Claim7.holds Tryd.pinned (.plain (OpenSpec.ofChange fnPathCleanSpec)) fnPathCleanCard

/-- THE TIED CARD OF 'laws.FnPathPieces'. -/
def fnPathPiecesCard : Claim7 := { stood := { row := fnPathPiecesRow, standIns := [], harness := (true, "307755f1b36559ee3e17ae4caccfed44933f50be6752a6bfa2eaf3d0a85a524c"), looks := true }, kinds := [], alts := [], laidByText := true, laidKinds := [.data, .data, .data, .data, .sentinel, .sentinel, .sentinel, .pinned], laidTests := true, laidLooks := .later }
def FnPathPiecesCardSaid : Prop := Claim7.holds Tryd.pinned (.plain (OpenSpec.ofChange fnPathPiecesSpec)) fnPathPiecesCard

/-- THE SECOND FORM's CARD OF 'laws.FnNameBits'. -/
def fnNameBitsUptoCard : Claim7 := { stood := { row := fnNameBitsUptoRow, standIns := [], harness := (true, "307755f1b36559ee3e17ae4caccfed44933f50be6752a6bfa2eaf3d0a85a524c"), looks := true }, kinds := [], alts := [], laidByText := true, laidKinds := [.data, .sentinel, .pinned], laidTests := true, laidLooks := .later }
def FnNameBitsUptoCardSaid : Prop := Claim7.holds Tryd.pinned (.plain (OpenSpec.upto fnNameBitsSpec)) fnNameBitsUptoCard

/-- THE SECOND FORM's CARD OF 'laws.FnNameEncode'. -/
def fnNameEncodeUptoCard : Claim7 := { stood := { row := fnNameEncodeUptoRow, standIns := [], harness := (true, "307755f1b36559ee3e17ae4caccfed44933f50be6752a6bfa2eaf3d0a85a524c"), looks := true }, kinds := [], alts := [], laidByText := true, laidKinds := [.data, .sentinel, .pinned], laidTests := true, laidLooks := .later }
def FnNameEncodeUptoCardSaid : Prop := Claim7.holds Tryd.pinned (.plain (OpenSpec.upto fnNameEncodeSpec)) fnNameEncodeUptoCard

/-- THE SECOND FORM's CARD OF 'laws.FnNameJoin'. -/
def fnNameJoinUptoCard : Claim7 := { stood := { row := fnNameJoinUptoRow, standIns := [], harness := (true, "307755f1b36559ee3e17ae4caccfed44933f50be6752a6bfa2eaf3d0a85a524c"), looks := true }, kinds := [], alts := [], laidByText := true, laidKinds := [.data, .sentinel, .pinned], laidTests := true, laidLooks := .later }
def FnNameJoinUptoCardSaid : Prop := Claim7.holds Tryd.pinned (.plain (OpenSpec.upto fnNameJoinSpec)) fnNameJoinUptoCard

/-- THE SECOND FORM's CARD OF 'laws.FnNameAgain'. -/
def fnNameAgainUptoCard : Claim7 := { stood := { row := fnNameAgainUptoRow, standIns := [], harness := (true, "307755f1b36559ee3e17ae4caccfed44933f50be6752a6bfa2eaf3d0a85a524c"), looks := true }, kinds := [], alts := [], laidByText := true, laidKinds := [.data, .data, .data, .data, .sentinel, .sentinel, .sentinel, .pinned], laidTests := true, laidLooks := .later }
def FnNameAgainUptoCardSaid : Prop := Claim7.holds Tryd.pinned (.plain (OpenSpec.upto fnNameAgainSpec)) fnNameAgainUptoCard

/-- THE SECOND FORM's CARD OF 'laws.FnNameBack'. -/
def fnNameBackUptoCard : Claim7 := { stood := { row := fnNameBackUptoRow, standIns := [], harness := (true, "307755f1b36559ee3e17ae4caccfed44933f50be6752a6bfa2eaf3d0a85a524c"), looks := true }, kinds := [], alts := [], laidByText := true, laidKinds := [.data, .data, .data, .data, .sentinel, .sentinel, .sentinel, .pinned], laidTests := true, laidLooks := .later }
def FnNameBackUptoCardSaid : Prop := Claim7.holds Tryd.pinned (.plain (OpenSpec.upto fnNameBackSpec)) fnNameBackUptoCard

/-- THE SECOND FORM's CARD OF 'laws.FnNameStays'. -/
def fnNameStaysUptoCard : Claim7 := { stood := { row := fnNameStaysUptoRow, standIns := [], harness := (true, "307755f1b36559ee3e17ae4caccfed44933f50be6752a6bfa2eaf3d0a85a524c"), looks := true }, kinds := [], alts := [], laidByText := true, laidKinds := [.data, .data, .data, .data, .sentinel, .sentinel, .sentinel, .pinned], laidTests := true, laidLooks := .later }
def FnNameStaysUptoCardSaid : Prop := Claim7.holds Tryd.pinned (.plain (OpenSpec.upto fnNameStaysSpec)) fnNameStaysUptoCard

/-- THE SECOND FORM's CARD OF 'laws.FnNameFrom'. -/
def fnNameFromUptoCard : Claim7 := { stood := { row := fnNameFromUptoRow, standIns := [], harness := (true, "307755f1b36559ee3e17ae4caccfed44933f50be6752a6bfa2eaf3d0a85a524c"), looks := true }, kinds := [], alts := [], laidByText := true, laidKinds := [.data, .data, .data, .data, .sentinel, .sentinel, .sentinel, .pinned], laidTests := true, laidLooks := .later }
def FnNameFromUptoCardSaid : Prop := Claim7.holds Tryd.pinned (.plain (OpenSpec.upto fnNameFromSpec)) fnNameFromUptoCard

/-- THE SECOND FORM's CARD OF 'laws.FnNameAny'. -/
def fnNameAnyUptoCard : Claim7 := { stood := { row := fnNameAnyUptoRow, standIns := [], harness := (true, "307755f1b36559ee3e17ae4caccfed44933f50be6752a6bfa2eaf3d0a85a524c"), looks := true }, kinds := [], alts := [], laidByText := true, laidKinds := [.data, .data, .data, .data, .sentinel, .sentinel, .sentinel, .pinned], laidTests := true, laidLooks := .later }
def FnNameAnyUptoCardSaid : Prop := Claim7.holds Tryd.pinned (.plain (OpenSpec.upto fnNameAnySpec)) fnNameAnyUptoCard

/-- THE SECOND FORM's CARD OF 'laws.FnPathFrom'. -/
def fnPathFromUptoCard : Claim7 := { stood := { row := fnPathFromUptoRow, standIns := [], harness := (true, "307755f1b36559ee3e17ae4caccfed44933f50be6752a6bfa2eaf3d0a85a524c"), looks := true }, kinds := [], alts := [], laidByText := true, laidKinds := [.data, .data, .data, .data, .sentinel, .sentinel, .sentinel, .pinned], laidTests := true, laidLooks := .later }
def FnPathFromUptoCardSaid : Prop := Claim7.holds Tryd.pinned (.plain (OpenSpec.upto fnPathFromSpec)) fnPathFromUptoCard

/-- THE SECOND FORM's CARD OF 'laws.FnPathClean'. -/
def fnPathCleanUptoCard : Claim7 := { stood := { row := fnPathCleanUptoRow, standIns := [], harness := (true, "307755f1b36559ee3e17ae4caccfed44933f50be6752a6bfa2eaf3d0a85a524c"), looks := true }, kinds := [], alts := [], laidByText := true, laidKinds := [.data, .data, .data, .data, .sentinel, .sentinel, .sentinel, .pinned], laidTests := true, laidLooks := .later }
def FnPathCleanUptoCardSaid : Prop := Claim7.holds Tryd.pinned (.plain (OpenSpec.upto fnPathCleanSpec)) fnPathCleanUptoCard

/-- THE SECOND FORM's CARD OF 'laws.FnPathPieces'. -/
def fnPathPiecesUptoCard : Claim7 := { stood := { row := fnPathPiecesUptoRow, standIns := [], harness := (true, "307755f1b36559ee3e17ae4caccfed44933f50be6752a6bfa2eaf3d0a85a524c"), looks := true }, kinds := [], alts := [], laidByText := true, laidKinds := [.data, .data, .data, .data, .sentinel, .sentinel, .sentinel, .pinned], laidTests := true, laidLooks := .later }
def FnPathPiecesUptoCardSaid : Prop := Claim7.holds Tryd.pinned (.plain (OpenSpec.upto fnPathPiecesSpec)) fnPathPiecesUptoCard
end Rows
end Go.Proofs.YtonmnpmklkbioaaDoor
