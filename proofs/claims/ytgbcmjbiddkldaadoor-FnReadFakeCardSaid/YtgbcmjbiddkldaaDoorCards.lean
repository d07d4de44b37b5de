/-
  DERIVED. GIVEN WITH THE SEED: THE CARDS: each row of YtgbcmjbiddkldaaDoorRows.lean that lists a variable, with what it lists TIED to the program's text (the seventh form; the later family's looks); each row that meets fmt, with fmt's text TOLD by the authors' own Lean function (tested against real Go, not proved from fmt's source: count such statements apart). THE CARD IS WHAT COUNTS. Prove the row's statement (the work); the ties are given (YtgbcmjbiddkldaaDoorTie.lean); close each card by the builder's one call (the guide's Derived/Test/ToyasCard.lean, 'card_holds'). Laid BY PROGRAM, IN A SANDBOX (cutbox-door.mjs). By AI agents, Wed Nov 11 2026. No macro, syntax, notation, axiom, sorry.
-/
import Derived.Test.YtgbcmjbiddkldaaDoorRows
import GoSem.ClaimSeven
namespace Go.Proofs.YtgbcmjbiddkldaaDoor
namespace Rows

/-- THE TIED CARD OF 'laws.FnReadPlaces'. -/
def fnReadPlacesCard : Claim7 := { stood := { row := fnReadPlacesRow, standIns := [], harness := (true, "94c5078210c7b3073f0cd3377b57196b0bdccf5828c3471b2b16111444571190"), looks := true }, kinds := [], alts := [], laidByText := true, laidKinds := [.sentinel], laidTests := true, laidLooks := .later }
def FnReadPlacesCardSaid : Prop := Claim7.holds Tryd.pinned (.plain (OpenSpec.ofChange fnReadPlacesSpec)) fnReadPlacesCard

/-- THE TIED CARD OF 'laws.FnReadCounting'. -/
def fnReadCountingCard : Claim7 := { stood := { row := fnReadCountingRow, standIns := [], harness := (true, "94c5078210c7b3073f0cd3377b57196b0bdccf5828c3471b2b16111444571190"), looks := true }, kinds := [], alts := [], laidByText := true, laidKinds := [.sentinel], laidTests := true, laidLooks := .later }
def FnReadCountingCardSaid : Prop := Claim7.holds Tryd.pinned (.plain (OpenSpec.ofChange fnReadCountingSpec)) fnReadCountingCard

/-- THE TIED CARD OF 'laws.FnReadFake'. -/
def fnReadFakeCard : Claim7 := { stood := { row := fnReadFakeRow, standIns := [], harness := (true, "94c5078210c7b3073f0cd3377b57196b0bdccf5828c3471b2b16111444571190"), looks := true }, kinds := [], alts := [], laidByText := true, laidKinds := [.sentinel], laidTests := true, laidLooks := .later }
def FnReadFakeCardSaid : Prop := Claim7.holds Tryd.pinned (.plain (OpenSpec.ofChange fnReadFakeSpec)) fnReadFakeCard

/-- THE TIED CARD OF 'laws.FnReadFill'. -/
def fnReadFillCard : Claim7 := { stood := { row := fnReadFillRow, standIns := [], harness := (true, "94c5078210c7b3073f0cd3377b57196b0bdccf5828c3471b2b16111444571190"), looks := true }, kinds := [], alts := [], laidByText := true, laidKinds := [.sentinel], laidTests := true, laidLooks := .later }
def FnReadFillCardSaid : Prop := Claim7.holds Tryd.pinned (.plain (OpenSpec.ofChange fnReadFillSpec)) fnReadFillCard

/-- THE SECOND FORM's CARD OF 'laws.FnReadPlaces'. -/
def fnReadPlacesUptoCard : Claim7 := { stood := { row := fnReadPlacesUptoRow, standIns := [], harness := (true, "94c5078210c7b3073f0cd3377b57196b0bdccf5828c3471b2b16111444571190"), looks := true }, kinds := [], alts := [], laidByText := true, laidKinds := [.sentinel], laidTests := true, laidLooks := .later }
def FnReadPlacesUptoCardSaid : Prop := Claim7.holds Tryd.pinned (.plain (OpenSpec.upto fnReadPlacesSpec)) fnReadPlacesUptoCard

/-- THE SECOND FORM's CARD OF 'laws.FnReadCounting'. -/
def fnReadCountingUptoCard : Claim7 := { stood := { row := fnReadCountingUptoRow, standIns := [], harness := (true, "94c5078210c7b3073f0cd3377b57196b0bdccf5828c3471b2b16111444571190"), looks := true }, kinds := [], alts := [], laidByText := true, laidKinds := [.sentinel], laidTests := true, laidLooks := .later }
def FnReadCountingUptoCardSaid : Prop := Claim7.holds Tryd.pinned (.plain (OpenSpec.upto fnReadCountingSpec)) fnReadCountingUptoCard

/-- THE SECOND FORM's CARD OF 'laws.FnReadFake'. -/
def fnReadFakeUptoCard : Claim7 := { stood := { row := fnReadFakeUptoRow, standIns := [], harness := (true, "94c5078210c7b3073f0cd3377b57196b0bdccf5828c3471b2b16111444571190"), looks := true }, kinds := [], alts := [], laidByText := true, laidKinds := [.sentinel], laidTests := true, laidLooks := .later }
def FnReadFakeUptoCardSaid : Prop := Claim7.holds Tryd.pinned (.plain (OpenSpec.upto fnReadFakeSpec)) fnReadFakeUptoCard

/-- THE SECOND FORM's CARD OF 'laws.FnReadFill'. -/
def fnReadFillUptoCard : Claim7 := { stood := { row := fnReadFillUptoRow, standIns := [], harness := (true, "94c5078210c7b3073f0cd3377b57196b0bdccf5828c3471b2b16111444571190"), looks := true }, kinds := [], alts := [], laidByText := true, laidKinds := [.sentinel], laidTests := true, laidLooks := .later }
def FnReadFillUptoCardSaid : Prop := Claim7.holds Tryd.pinned (.plain (OpenSpec.upto fnReadFillSpec)) fnReadFillUptoCard
end Rows
end Go.Proofs.YtgbcmjbiddkldaaDoor
