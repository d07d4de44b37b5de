/-
  No cell of these rows narrows 'for every input' (looked for: loops, veiled, ifaces, maps, wideKeys, modest, calm, conditions, laid).
  DERIVED. THE GIVEN ROWS OF THIS SEAT. 4 by the template 'for every input the law returns true; each argument reads behind the call as it read before'; 0 by the template 'total and deterministic' (their statements: YtkdmdoflfaldiaaTotals.lean).
  GIVEN WITH THE SEED: the statements are not yours to turn. If you find one false, say at which input.
  Laid BY PROGRAM, IN A SANDBOX (cutbox-rows.mjs): the forced cells as the released guide's own fill.sh prints them over the translation ad11a65446a25661… (all of the seat's roots in one cut). By AI agents, Wed Nov 11 2026. No macro, syntax, notation, axiom, sorry.
-/
import Derived.Test.YtkdmdoflfaldiaaChecked
import GoSem.Claim
import GoSem.ClaimJoined
import GoSem.ClaimMapViews
import Derived.JoinedTies
import Derived.KernelRfl
namespace Go.Proofs.Ytkdmdoflfaldiaa
/- THE CELL 'sum', in the pinned program and in every row, IS THE sha256 OF THE DUMP (.gsa) THAT YtkdmdoflfaldiaaProg.lean LOADS. Nothing in Lean hashes anything: it is a label: what it is worth is what the hold of that sum in a sandbox is worth. -/
noncomputable def Try.pinned : Pinned := { name := "ytkdmdoflfaldiaa", sum := "ad11a65446a25661f855fc16e3016a89986fbc0e885e57e20cdd2a3e4170a796", checked := Try.checked }
namespace Rows
def none {H : Type} : Left H := { results := [], args := [] }

/-- 'laws.FnDirSplit': WHATEVER THE INPUT: true; the input reads as it did. -/
def fnDirSplitSpec : ChangeSpec := { name := "fnDirSplit", fn := fun _ => fun
  | [d] => { results := [.lit (.bool true)], args := [d] }
  | _ => none }
def fnDirSplitRow : OpenClaim := { program := "ytkdmdoflfaldiaa", sum := "ad11a65446a25661f855fc16e3016a89986fbc0e885e57e20cdd2a3e4170a796", func := "pub-longboat/laws.FnDirSplit", spec := "fnDirSplit", apart := false }
def FnDirSplitSaid : Prop := fnDirSplitRow.holds Try.pinned (OpenSpec.ofChange fnDirSplitSpec)

/-- ITS FALSE NEIGHBOUR: 'it returns false'. Refute it at one input. -/
def fnDirSplitWrong : ChangeSpec := { name := "fnDirSplit", fn := fun _ => fun
  | [d] => { results := [.lit (.bool false)], args := [d] }
  | _ => none }
def FnDirSplitWrongFalsely : Prop := fnDirSplitRow.holds Try.pinned (OpenSpec.ofChange fnDirSplitWrong)

/-- 'laws.FnBracketsFind': WHATEVER THE INPUT: true; the input reads as it did. -/
def fnBracketsFindSpec : ChangeSpec := { name := "fnBracketsFind", fn := fun _ => fun
  | [d] => { results := [.lit (.bool true)], args := [d] }
  | _ => none }
def fnBracketsFindRow : OpenClaim := { program := "ytkdmdoflfaldiaa", sum := "ad11a65446a25661f855fc16e3016a89986fbc0e885e57e20cdd2a3e4170a796", func := "pub-longboat/laws.FnBracketsFind", spec := "fnBracketsFind", apart := false }
def FnBracketsFindSaid : Prop := fnBracketsFindRow.holds Try.pinned (OpenSpec.ofChange fnBracketsFindSpec)

/-- ITS FALSE NEIGHBOUR: 'it returns false'. Refute it at one input. -/
def fnBracketsFindWrong : ChangeSpec := { name := "fnBracketsFind", fn := fun _ => fun
  | [d] => { results := [.lit (.bool false)], args := [d] }
  | _ => none }
def FnBracketsFindWrongFalsely : Prop := fnBracketsFindRow.holds Try.pinned (OpenSpec.ofChange fnBracketsFindWrong)

/-- 'laws.FnDirSteps': WHATEVER THE INPUT: true; the input reads as it did. -/
def fnDirStepsSpec : ChangeSpec := { name := "fnDirSteps", fn := fun _ => fun
  | [d1, d2, d3] => { results := [.lit (.bool true)], args := [d1, d2, d3] }
  | _ => none }
def fnDirStepsRow : OpenClaim := { program := "ytkdmdoflfaldiaa", sum := "ad11a65446a25661f855fc16e3016a89986fbc0e885e57e20cdd2a3e4170a796", func := "pub-longboat/laws.FnDirSteps", spec := "fnDirSteps", apart := false }
def FnDirStepsSaid : Prop := fnDirStepsRow.holds Try.pinned (OpenSpec.ofChange fnDirStepsSpec)

/-- ITS FALSE NEIGHBOUR: 'it returns false'. Refute it at one input. -/
def fnDirStepsWrong : ChangeSpec := { name := "fnDirSteps", fn := fun _ => fun
  | [d1, d2, d3] => { results := [.lit (.bool false)], args := [d1, d2, d3] }
  | _ => none }
def FnDirStepsWrongFalsely : Prop := fnDirStepsRow.holds Try.pinned (OpenSpec.ofChange fnDirStepsWrong)

/-- 'laws.FnPathSafe': WHATEVER THE INPUT: true; the input reads as it did. -/
def fnPathSafeSpec : ChangeSpec := { name := "fnPathSafe", fn := fun _ => fun
  | [d] => { results := [.lit (.bool true)], args := [d] }
  | _ => none }
def fnPathSafeRow : OpenClaim := { program := "ytkdmdoflfaldiaa", sum := "ad11a65446a25661f855fc16e3016a89986fbc0e885e57e20cdd2a3e4170a796", func := "pub-longboat/laws.FnPathSafe", spec := "fnPathSafe", unfollowed := true, recurses := true, apart := false }
def FnPathSafeSaid : Prop := fnPathSafeRow.holds Try.pinned (OpenSpec.ofChange fnPathSafeSpec)

/-- ITS FALSE NEIGHBOUR: 'it returns false'. Refute it at one input. -/
def fnPathSafeWrong : ChangeSpec := { name := "fnPathSafe", fn := fun _ => fun
  | [d] => { results := [.lit (.bool false)], args := [d] }
  | _ => none }
def FnPathSafeWrongFalsely : Prop := fnPathSafeRow.holds Try.pinned (OpenSpec.ofChange fnPathSafeWrong)

/- THE SECOND FORM. 'bulk': how many values and letters a reading holds, each counted each time it is reached (what is shared counts as often as it is met; a slice's spare places count too). A statement '..UptoSaid' is the law's where the arguments, and the package variables that the reading takes, are together of bulk at most 1048576: NARROWER than '..Said'. Prove '..Said' where nothing that the law and all that it calls make is longer than what came in: it says more and counts as full. Else prove '..UptoSaid'. A law counts once. -/
mutual
def uptoBulk {H : Type} : DataW H → Nat
  | .lit (.string bytes) => bytes.length + 1
  | .lit _ => 1
  | .nil => 1
  | .ptr d => uptoBulk d + 1
  | .slice elems spare => uptoBulkAll elems + uptoBulkAll spare + 1
  | .agg parts => uptoBulkAll parts + 1
  | .iface _ d => uptoBulk d + 1
  | .map entries => uptoBulkEntries entries + 1
  | .held _ => 1
def uptoBulkAll {H : Type} : List (DataW H) → Nat
  | [] => 0
  | d :: r => uptoBulk d + uptoBulkAll r
def uptoBulkEntries {H : Type} : List (Lit × DataW H) → Nat
  | [] => 0
  | x :: r => uptoBulkEntry x + uptoBulkEntries r
def uptoBulkEntry {H : Type} : Lit × DataW H → Nat
  | (.string bytes, d) => bytes.length + uptoBulk d + 1
  | (_, d) => uptoBulk d + 1
 end
def uptoSmall : (H : Type) → List (DataW H) → Bool := fun _ ds => decide (uptoBulkAll ds ≤ 1048576)
def OpenSpec.upto (s : _root_.Go.ChangeSpec) : _root_.Go.OpenSpec := { _root_.Go.OpenSpec.ofChange s with cond := some uptoSmall }

/-- 'laws.FnDirSplit', WHERE WHAT IT READS IS OF BULK AT MOST 1048576: true; the input reads as it did. -/
def fnDirSplitUptoRow : OpenClaim := { program := "ytkdmdoflfaldiaa", sum := "ad11a65446a25661f855fc16e3016a89986fbc0e885e57e20cdd2a3e4170a796", func := "pub-longboat/laws.FnDirSplit", spec := "fnDirSplit", apart := false, narrowed := true }
def FnDirSplitUptoSaid : Prop := fnDirSplitUptoRow.holds Try.pinned (OpenSpec.upto fnDirSplitSpec)

/-- 'laws.FnBracketsFind', WHERE WHAT IT READS IS OF BULK AT MOST 1048576: true; the input reads as it did. -/
def fnBracketsFindUptoRow : OpenClaim := { program := "ytkdmdoflfaldiaa", sum := "ad11a65446a25661f855fc16e3016a89986fbc0e885e57e20cdd2a3e4170a796", func := "pub-longboat/laws.FnBracketsFind", spec := "fnBracketsFind", apart := false, narrowed := true }
def FnBracketsFindUptoSaid : Prop := fnBracketsFindUptoRow.holds Try.pinned (OpenSpec.upto fnBracketsFindSpec)

/-- 'laws.FnDirSteps', WHERE WHAT IT READS IS OF BULK AT MOST 1048576: true; the input reads as it did. -/
def fnDirStepsUptoRow : OpenClaim := { program := "ytkdmdoflfaldiaa", sum := "ad11a65446a25661f855fc16e3016a89986fbc0e885e57e20cdd2a3e4170a796", func := "pub-longboat/laws.FnDirSteps", spec := "fnDirSteps", apart := false, narrowed := true }
def FnDirStepsUptoSaid : Prop := fnDirStepsUptoRow.holds Try.pinned (OpenSpec.upto fnDirStepsSpec)

/-- 'laws.FnPathSafe', WHERE WHAT IT READS IS OF BULK AT MOST 1048576: true; the input reads as it did. -/
def fnPathSafeUptoRow : OpenClaim := { program := "ytkdmdoflfaldiaa", sum := "ad11a65446a25661f855fc16e3016a89986fbc0e885e57e20cdd2a3e4170a796", func := "pub-longboat/laws.FnPathSafe", spec := "fnPathSafe", unfollowed := true, recurses := true, apart := false, narrowed := true }
def FnPathSafeUptoSaid : Prop := fnPathSafeUptoRow.holds Try.pinned (OpenSpec.upto fnPathSafeSpec)

end Rows
end Go.Proofs.Ytkdmdoflfaldiaa
