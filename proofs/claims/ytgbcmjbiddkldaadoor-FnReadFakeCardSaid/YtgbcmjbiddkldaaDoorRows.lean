/-
  NARROWER THAN 'FOR EVERY INPUT', by the rows' own cells (each row's printed sentence says how): FnReadPlaces: laid · FnReadCounting: laid · FnReadFake: laid · FnReadFill: laid.
  DERIVED. THE GIVEN ROWS OF THIS SEAT. 4 by the template 'for every input the law returns true; each argument reads behind the call as it read before'; 0 by the template 'total and deterministic' (their statements: YtgbcmjbiddkldaaDoorTotals.lean).
  GIVEN WITH THE SEED: the statements are not yours to turn. If you find one false, say at which input.
  Laid BY PROGRAM, IN A SANDBOX (cutbox-rows.mjs): the forced cells as the released guide's own fill.sh prints them over the translation 4dde04d8edd32635… (all of the seat's roots in one cut). By AI agents, Wed Nov 11 2026. No macro, syntax, notation, axiom, sorry.
-/
import Derived.Test.YtgbcmjbiddkldaaDoorChecked
import GoSem.Claim
import GoSem.ClaimJoined
import GoSem.ClaimMapViews
import Derived.JoinedTies
import Derived.KernelRfl
namespace Go.Proofs.YtgbcmjbiddkldaaDoor
/- THE CELL 'sum', in the pinned program and in every row, IS THE sha256 OF THE DUMP (.gsa) THAT YtgbcmjbiddkldaaDoorProg.lean LOADS. Nothing in Lean hashes anything: it is a label: what it is worth is what the hold of that sum in a sandbox is worth. -/
noncomputable def Tryd.pinned : Pinned := { name := "ytgbcmjbiddkldaadoor", sum := "4dde04d8edd32635cd0cf50440e886c8a6e4839736af4a91ddf4244a70564c95", checked := Tryd.checked }
namespace Rows
def none {H : Type} : Left H := { results := [], args := [] }

/- WHAT THE LISTED PACKAGE-LEVEL VARIABLES READ AS WHEN THE CALL BEGINS. Each datum BY PROGRAM (the guide's laid-datum.mjs) off the statement by which the dump's own 'gosem.cut.vars' lays the variable. In a bare row this is a premise. The card (YtgbcmjbiddkldaaDoorCards.lean) ties it to the program's text. -/
def laid_io_EOF {H : Type} : DataW H := .iface "*errors.errorString" (.ptr (.agg [.lit (.string [69, 79, 70])]))

/-- 'laws.FnReadPlaces': WHATEVER THE INPUT: true; the input reads as it did. -/
def fnReadPlacesSpec : ChangeSpec := { name := "fnReadPlaces", fn := fun _ => fun
  | [d1, d2, d3] => { results := [.lit (.bool true)], args := [d1, d2, d3] }
  | _ => none }
def fnReadPlacesRow : OpenClaim := { program := "ytgbcmjbiddkldaadoor", sum := "4dde04d8edd32635cd0cf50440e886c8a6e4839736af4a91ddf4244a70564c95", func := "pub-longboat/laws.FnReadPlaces", spec := "fnReadPlaces", unfollowed := true, recurses := true, named := ["io.EOF"], apart := false, laid := [("io.EOF", laid_io_EOF)] }
def FnReadPlacesSaid : Prop := fnReadPlacesRow.holds Tryd.pinned (OpenSpec.ofChange fnReadPlacesSpec)

/-- ITS FALSE NEIGHBOUR: 'it returns false'. Refute it at one input. -/
def fnReadPlacesWrong : ChangeSpec := { name := "fnReadPlaces", fn := fun _ => fun
  | [d1, d2, d3] => { results := [.lit (.bool false)], args := [d1, d2, d3] }
  | _ => none }
def FnReadPlacesWrongFalsely : Prop := fnReadPlacesRow.holds Tryd.pinned (OpenSpec.ofChange fnReadPlacesWrong)

/-- 'laws.FnReadCounting': WHATEVER THE INPUT: true; the input reads as it did. -/
def fnReadCountingSpec : ChangeSpec := { name := "fnReadCounting", fn := fun _ => fun
  | [d1, d2, d3] => { results := [.lit (.bool true)], args := [d1, d2, d3] }
  | _ => none }
def fnReadCountingRow : OpenClaim := { program := "ytgbcmjbiddkldaadoor", sum := "4dde04d8edd32635cd0cf50440e886c8a6e4839736af4a91ddf4244a70564c95", func := "pub-longboat/laws.FnReadCounting", spec := "fnReadCounting", unfollowed := true, recurses := true, named := ["io.EOF"], apart := false, laid := [("io.EOF", laid_io_EOF)] }
def FnReadCountingSaid : Prop := fnReadCountingRow.holds Tryd.pinned (OpenSpec.ofChange fnReadCountingSpec)

/-- ITS FALSE NEIGHBOUR: 'it returns false'. Refute it at one input. -/
def fnReadCountingWrong : ChangeSpec := { name := "fnReadCounting", fn := fun _ => fun
  | [d1, d2, d3] => { results := [.lit (.bool false)], args := [d1, d2, d3] }
  | _ => none }
def FnReadCountingWrongFalsely : Prop := fnReadCountingRow.holds Tryd.pinned (OpenSpec.ofChange fnReadCountingWrong)

/-- 'laws.FnReadFake': WHATEVER THE INPUT: true; the input reads as it did. -/
def fnReadFakeSpec : ChangeSpec := { name := "fnReadFake", fn := fun _ => fun
  | [d1, d2, d3, d4] => { results := [.lit (.bool true)], args := [d1, d2, d3, d4] }
  | _ => none }
def fnReadFakeRow : OpenClaim := { program := "ytgbcmjbiddkldaadoor", sum := "4dde04d8edd32635cd0cf50440e886c8a6e4839736af4a91ddf4244a70564c95", func := "pub-longboat/laws.FnReadFake", spec := "fnReadFake", unfollowed := true, recurses := true, named := ["io.EOF"], apart := false, laid := [("io.EOF", laid_io_EOF)] }
def FnReadFakeSaid : Prop := fnReadFakeRow.holds Tryd.pinned (OpenSpec.ofChange fnReadFakeSpec)

/-- ITS FALSE NEIGHBOUR: 'it returns false'. Refute it at one input. -/
def fnReadFakeWrong : ChangeSpec := { name := "fnReadFake", fn := fun _ => fun
  | [d1, d2, d3, d4] => { results := [.lit (.bool false)], args := [d1, d2, d3, d4] }
  | _ => none }
def FnReadFakeWrongFalsely : Prop := fnReadFakeRow.holds Tryd.pinned (OpenSpec.ofChange fnReadFakeWrong)

/-- 'laws.FnReadFill': WHATEVER THE INPUT: true; the input reads as it did. -/
def fnReadFillSpec : ChangeSpec := { name := "fnReadFill", fn := fun _ => fun
  | [d1, d2, d3] => { results := [.lit (.bool true)], args := [d1, d2, d3] }
  | _ => none }
def fnReadFillRow : OpenClaim := { program := "ytgbcmjbiddkldaadoor", sum := "4dde04d8edd32635cd0cf50440e886c8a6e4839736af4a91ddf4244a70564c95", func := "pub-longboat/laws.FnReadFill", spec := "fnReadFill", unfollowed := true, recurses := true, named := ["io.EOF"], apart := false, laid := [("io.EOF", laid_io_EOF)] }
def FnReadFillSaid : Prop := fnReadFillRow.holds Tryd.pinned (OpenSpec.ofChange fnReadFillSpec)

/-- ITS FALSE NEIGHBOUR: 'it returns false'. Refute it at one input. -/
def fnReadFillWrong : ChangeSpec := { name := "fnReadFill", fn := fun _ => fun
  | [d1, d2, d3] => { results := [.lit (.bool false)], args := [d1, d2, d3] }
  | _ => none }
def FnReadFillWrongFalsely : Prop := fnReadFillRow.holds Tryd.pinned (OpenSpec.ofChange fnReadFillWrong)

/- THE SECOND FORM. 'bulk': how many values and letters a reading holds, each counted each time it is reached (what is shared counts as often as it is met; a slice's spare places count too). A statement '..UptoSaid' is the law's where the arguments, and the package variables that the reading takes, are together of bulk at most 1048576: NARROWER than '..Said'. Prove '..Said' where nothing that the law and all that it calls make is longer than what came in: it says more and counts as full. Else prove '..UptoSaid'. A law counts once. -/
mutual
def uptoBulk {H : Type} : DataW H → Nat
  | .lit (.string bytes) => bytes.length + 1
  | .lit _ => 1
  | .nil => 1
  | .ptr d => uptoBulk d + 1
  | .slice elems spare => uptoBulkAll elems + uptoBulkAll spare + 1
  | .agg parts => uptoBulkAll parts + 1
  | .iface _ d => uptoBulk d + 1
  | .map entries => uptoBulkEntries entries + 1
  | .held _ => 1
def uptoBulkAll {H : Type} : List (DataW H) → Nat
  | [] => 0
  | d :: r => uptoBulk d + uptoBulkAll r
def uptoBulkEntries {H : Type} : List (Lit × DataW H) → Nat
  | [] => 0
  | x :: r => uptoBulkEntry x + uptoBulkEntries r
def uptoBulkEntry {H : Type} : Lit × DataW H → Nat
  | (.string bytes, d) => bytes.length + uptoBulk d + 1
  | (_, d) => uptoBulk d + 1
 end
def uptoSmall : (H : Type) → List (DataW H) → Bool := fun _ ds => decide (uptoBulkAll ds ≤ 1048576)
def OpenSpec.upto (s : _root_.Go.ChangeSpec) : _root_.Go.OpenSpec := { _root_.Go.OpenSpec.ofChange s with cond := some uptoSmall }

/-- 'laws.FnReadPlaces', WHERE WHAT IT READS IS OF BULK AT MOST 1048576: true; the input reads as it did. -/
def fnReadPlacesUptoRow : OpenClaim := { program := "ytgbcmjbiddkldaadoor", sum := "4dde04d8edd32635cd0cf50440e886c8a6e4839736af4a91ddf4244a70564c95", func := "pub-longboat/laws.FnReadPlaces", spec := "fnReadPlaces", unfollowed := true, recurses := true, named := ["io.EOF"], apart := false, laid := [("io.EOF", laid_io_EOF)], narrowed := true }
def FnReadPlacesUptoSaid : Prop := fnReadPlacesUptoRow.holds Tryd.pinned (OpenSpec.upto fnReadPlacesSpec)

/-- 'laws.FnReadCounting', WHERE WHAT IT READS IS OF BULK AT MOST 1048576: true; the input reads as it did. -/
def fnReadCountingUptoRow : OpenClaim := { program := "ytgbcmjbiddkldaadoor", sum := "4dde04d8edd32635cd0cf50440e886c8a6e4839736af4a91ddf4244a70564c95", func := "pub-longboat/laws.FnReadCounting", spec := "fnReadCounting", unfollowed := true, recurses := true, named := ["io.EOF"], apart := false, laid := [("io.EOF", laid_io_EOF)], narrowed := true }
def FnReadCountingUptoSaid : Prop := fnReadCountingUptoRow.holds Tryd.pinned (OpenSpec.upto fnReadCountingSpec)

/-- 'laws.FnReadFake', WHERE WHAT IT READS IS OF BULK AT MOST 1048576: true; the input reads as it did. -/
def fnReadFakeUptoRow : OpenClaim := { program := "ytgbcmjbiddkldaadoor", sum := "4dde04d8edd32635cd0cf50440e886c8a6e4839736af4a91ddf4244a70564c95", func := "pub-longboat/laws.FnReadFake", spec := "fnReadFake", unfollowed := true, recurses := true, named := ["io.EOF"], apart := false, laid := [("io.EOF", laid_io_EOF)], narrowed := true }
def FnReadFakeUptoSaid : Prop := fnReadFakeUptoRow.holds Tryd.pinned (OpenSpec.upto fnReadFakeSpec)

/-- 'laws.FnReadFill', WHERE WHAT IT READS IS OF BULK AT MOST 1048576: true; the input reads as it did. -/
def fnReadFillUptoRow : OpenClaim := { program := "ytgbcmjbiddkldaadoor", sum := "4dde04d8edd32635cd0cf50440e886c8a6e4839736af4a91ddf4244a70564c95", func := "pub-longboat/laws.FnReadFill", spec := "fnReadFill", unfollowed := true, recurses := true, named := ["io.EOF"], apart := false, laid := [("io.EOF", laid_io_EOF)], narrowed := true }
def FnReadFillUptoSaid : Prop := fnReadFillUptoRow.holds Tryd.pinned (OpenSpec.upto fnReadFillSpec)

end Rows
end Go.Proofs.YtgbcmjbiddkldaaDoor
