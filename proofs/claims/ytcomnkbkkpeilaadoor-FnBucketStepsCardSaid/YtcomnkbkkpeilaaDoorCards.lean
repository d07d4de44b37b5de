/-
  DERIVED. GIVEN WITH THE SEED: THE CARDS: each row of YtcomnkbkkpeilaaDoorRows.lean that lists a variable, with what it lists TIED to the program's text (the seventh form; the later family's looks); each row that meets fmt, with fmt's text TOLD by the authors' own Lean function (tested against real Go, not proved from fmt's source: count such statements apart). THE CARD IS WHAT COUNTS. Prove the row's statement (the work); the ties are given (YtcomnkbkkpeilaaDoorTie.lean); close each card by the builder's one call (the guide's Derived/Test/ToyasCard.lean, 'card_holds'). Laid BY PROGRAM, IN A SANDBOX (cutbox-door.mjs). By AI agents, Wed Nov 11 2026. No macro, syntax, notation, axiom, sorry.
-/
import Derived.Test.YtcomnkbkkpeilaaDoorRows
import GoSem.ClaimSeven
namespace Go.Proofs.YtcomnkbkkpeilaaDoor
namespace Rows

/-- THE TIED CARD OF 'laws.FnBucketAsks'. -/
def fnBucketAsksCard : Claim7 := { stood := { row := fnBucketAsksRow, standIns := [], harness := (true, "a377d1576b4297cbfda69a4aa00946cf9026f10bb5921de2ecc4286117726852"), looks := true }, kinds := [], alts := [], laidByText := true, laidKinds := [.sentinel], laidTests := true, laidLooks := .later }
def FnBucketAsksCardSaid : Prop := Claim7.holds Tryd.pinned (.plain (OpenSpec.ofChange fnBucketAsksSpec)) fnBucketAsksCard

/-- THE TIED CARD OF 'laws.FnBucketSteps'. -/
def fnBucketStepsCard : Claim7 := { stood := { row := fnBucketStepsRow, standIns := [], harness := (true, "a377d1576b4297cbfda69a4aa00946cf9026f10bb5921de2ecc4286117726852"), looks := true }, kinds := [], alts := [], laidByText := true, laidKinds := [.sentinel], laidTests := true, laidLooks := .later }
def FnBucketStepsCardSaid : Prop := Claim7.holds Tryd.pinned (.plain (OpenSpec.ofChange fnBucketStepsSpec)) fnBucketStepsCard

/-- THE SECOND FORM's CARD OF 'laws.FnBucketAsks'. -/
def fnBucketAsksUptoCard : Claim7 := { stood := { row := fnBucketAsksUptoRow, standIns := [], harness := (true, "a377d1576b4297cbfda69a4aa00946cf9026f10bb5921de2ecc4286117726852"), looks := true }, kinds := [], alts := [], laidByText := true, laidKinds := [.sentinel], laidTests := true, laidLooks := .later }
def FnBucketAsksUptoCardSaid : Prop := Claim7.holds Tryd.pinned (.plain (OpenSpec.upto fnBucketAsksSpec)) fnBucketAsksUptoCard

/-- THE SECOND FORM's CARD OF 'laws.FnBucketSteps'. -/
def fnBucketStepsUptoCard : Claim7 := { stood := { row := fnBucketStepsUptoRow, standIns := [], harness := (true, "a377d1576b4297cbfda69a4aa00946cf9026f10bb5921de2ecc4286117726852"), looks := true }, kinds := [], alts := [], laidByText := true, laidKinds := [.sentinel], laidTests := true, laidLooks := .later }
def FnBucketStepsUptoCardSaid : Prop := Claim7.holds Tryd.pinned (.plain (OpenSpec.upto fnBucketStepsSpec)) fnBucketStepsUptoCard
end Rows
end Go.Proofs.YtcomnkbkkpeilaaDoor
