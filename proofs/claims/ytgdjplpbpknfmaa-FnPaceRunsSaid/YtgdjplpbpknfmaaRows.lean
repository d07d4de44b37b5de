/-
  No cell of these rows narrows 'for every input' (looked for: loops, veiled, ifaces, maps, wideKeys, modest, calm, conditions, laid).
  DERIVED. THE GIVEN ROWS OF THIS SEAT. 4 by the template 'for every input the law returns true; each argument reads behind the call as it read before'; 0 by the template 'total and deterministic' (their statements: YtgdjplpbpknfmaaTotals.lean).
  GIVEN WITH THE SEED: the statements are not yours to turn. If you find one false, say at which input.
  Laid BY PROGRAM, IN A SANDBOX (cutbox-rows.mjs): the forced cells as the released guide's own fill.sh prints them over the translation 2a46b920cfc9cab1… (all of the seat's roots in one cut). By AI agents, Wed Nov 11 2026. No macro, syntax, notation, axiom, sorry.
-/
import Derived.Test.YtgdjplpbpknfmaaChecked
import GoSem.Claim
import GoSem.ClaimJoined
import GoSem.ClaimMapViews
import Derived.JoinedTies
import Derived.KernelRfl
namespace Go.Proofs.Ytgdjplpbpknfmaa
/- THE CELL 'sum', in the pinned program and in every row, IS THE sha256 OF THE DUMP (.gsa) THAT YtgdjplpbpknfmaaProg.lean LOADS. Nothing in Lean hashes anything: it is a label: what it is worth is what the hold of that sum in a sandbox is worth. -/
noncomputable def Try.pinned : Pinned := { name := "ytgdjplpbpknfmaa", sum := "2a46b920cfc9cab1a9809b031135bde984cbd9c37f18e5ba4d266dbf447f28cc", checked := Try.checked }
namespace Rows
def none {H : Type} : Left H := { results := [], args := [] }

/-- 'laws.FnPaceAzure': WHATEVER THE INPUT: true; the input reads as it did. -/
def fnPaceAzureSpec : ChangeSpec := { name := "fnPaceAzure", fn := fun _ => fun
  | [d] => { results := [.lit (.bool true)], args := [d] }
  | _ => none }
def fnPaceAzureRow : OpenClaim := { program := "ytgdjplpbpknfmaa", sum := "2a46b920cfc9cab1a9809b031135bde984cbd9c37f18e5ba4d266dbf447f28cc", func := "pub-longboat/laws.FnPaceAzure", spec := "fnPaceAzure", apart := false }
def FnPaceAzureSaid : Prop := fnPaceAzureRow.holds Try.pinned (OpenSpec.ofChange fnPaceAzureSpec)

/-- ITS FALSE NEIGHBOUR: 'it returns false'. Refute it at one input. -/
def fnPaceAzureWrong : ChangeSpec := { name := "fnPaceAzure", fn := fun _ => fun
  | [d] => { results := [.lit (.bool false)], args := [d] }
  | _ => none }
def FnPaceAzureWrongFalsely : Prop := fnPaceAzureRow.holds Try.pinned (OpenSpec.ofChange fnPaceAzureWrong)

/-- 'laws.FnPaceS3': WHATEVER THE INPUT: true; the input reads as it did. -/
def fnPaceS3Spec : ChangeSpec := { name := "fnPaceS3", fn := fun _ => fun
  | [d1, d2] => { results := [.lit (.bool true)], args := [d1, d2] }
  | _ => none }
def fnPaceS3Row : OpenClaim := { program := "ytgdjplpbpknfmaa", sum := "2a46b920cfc9cab1a9809b031135bde984cbd9c37f18e5ba4d266dbf447f28cc", func := "pub-longboat/laws.FnPaceS3", spec := "fnPaceS3", unfollowed := true, recurses := true, apart := false }
def FnPaceS3Said : Prop := fnPaceS3Row.holds Try.pinned (OpenSpec.ofChange fnPaceS3Spec)

/-- ITS FALSE NEIGHBOUR: 'it returns false'. Refute it at one input. -/
def fnPaceS3Wrong : ChangeSpec := { name := "fnPaceS3", fn := fun _ => fun
  | [d1, d2] => { results := [.lit (.bool false)], args := [d1, d2] }
  | _ => none }
def FnPaceS3WrongFalsely : Prop := fnPaceS3Row.holds Try.pinned (OpenSpec.ofChange fnPaceS3Wrong)

/-- 'laws.FnPaceEnds': WHATEVER THE INPUT: true; the input reads as it did. -/
def fnPaceEndsSpec : ChangeSpec := { name := "fnPaceEnds", fn := fun _ => fun
  | [d1, d2, d3] => { results := [.lit (.bool true)], args := [d1, d2, d3] }
  | _ => none }
def fnPaceEndsRow : OpenClaim := { program := "ytgdjplpbpknfmaa", sum := "2a46b920cfc9cab1a9809b031135bde984cbd9c37f18e5ba4d266dbf447f28cc", func := "pub-longboat/laws.FnPaceEnds", spec := "fnPaceEnds", unfollowed := true, recurses := true, apart := false }
def FnPaceEndsSaid : Prop := fnPaceEndsRow.holds Try.pinned (OpenSpec.ofChange fnPaceEndsSpec)

/-- ITS FALSE NEIGHBOUR: 'it returns false'. Refute it at one input. -/
def fnPaceEndsWrong : ChangeSpec := { name := "fnPaceEnds", fn := fun _ => fun
  | [d1, d2, d3] => { results := [.lit (.bool false)], args := [d1, d2, d3] }
  | _ => none }
def FnPaceEndsWrongFalsely : Prop := fnPaceEndsRow.holds Try.pinned (OpenSpec.ofChange fnPaceEndsWrong)

/-- 'laws.FnPaceRuns': WHATEVER THE INPUT: true; the input reads as it did. -/
def fnPaceRunsSpec : ChangeSpec := { name := "fnPaceRuns", fn := fun _ => fun
  | [d1, d2, d3, d4, d5] => { results := [.lit (.bool true)], args := [d1, d2, d3, d4, d5] }
  | _ => none }
def fnPaceRunsRow : OpenClaim := { program := "ytgdjplpbpknfmaa", sum := "2a46b920cfc9cab1a9809b031135bde984cbd9c37f18e5ba4d266dbf447f28cc", func := "pub-longboat/laws.FnPaceRuns", spec := "fnPaceRuns", unfollowed := true, recurses := true, apart := false }
def FnPaceRunsSaid : Prop := fnPaceRunsRow.holds Try.pinned (OpenSpec.ofChange fnPaceRunsSpec)

/-- ITS FALSE NEIGHBOUR: 'it returns false'. Refute it at one input. -/
def fnPaceRunsWrong : ChangeSpec := { name := "fnPaceRuns", fn := fun _ => fun
  | [d1, d2, d3, d4, d5] => { results := [.lit (.bool false)], args := [d1, d2, d3, d4, d5] }
  | _ => none }
def FnPaceRunsWrongFalsely : Prop := fnPaceRunsRow.holds Try.pinned (OpenSpec.ofChange fnPaceRunsWrong)

/- THE SECOND FORM. 'bulk': how many values and letters a reading holds, each counted each time it is reached (what is shared counts as often as it is met; a slice's spare places count too). A statement '..UptoSaid' is the law's where the arguments, and the package variables that the reading takes, are together of bulk at most 1048576: NARROWER than '..Said'. Prove '..Said' where nothing that the law and all that it calls make is longer than what came in: it says more and counts as full. Else prove '..UptoSaid'. A law counts once. -/
mutual
def uptoBulk {H : Type} : DataW H → Nat
  | .lit (.string bytes) => bytes.length + 1
  | .lit _ => 1
  | .nil => 1
  | .ptr d => uptoBulk d + 1
  | .slice elems spare => uptoBulkAll elems + uptoBulkAll spare + 1
  | .agg parts => uptoBulkAll parts + 1
  | .iface _ d => uptoBulk d + 1
  | .map entries => uptoBulkEntries entries + 1
  | .held _ => 1
def uptoBulkAll {H : Type} : List (DataW H) → Nat
  | [] => 0
  | d :: r => uptoBulk d + uptoBulkAll r
def uptoBulkEntries {H : Type} : List (Lit × DataW H) → Nat
  | [] => 0
  | x :: r => uptoBulkEntry x + uptoBulkEntries r
def uptoBulkEntry {H : Type} : Lit × DataW H → Nat
  | (.string bytes, d) => bytes.length + uptoBulk d + 1
  | (_, d) => uptoBulk d + 1
 end
def uptoSmall : (H : Type) → List (DataW H) → Bool := fun _ ds => decide (uptoBulkAll ds ≤ 1048576)
def OpenSpec.upto (s : _root_.Go.ChangeSpec) : _root_.Go.OpenSpec := { _root_.Go.OpenSpec.ofChange s with cond := some uptoSmall }

/-- 'laws.FnPaceAzure', WHERE WHAT IT READS IS OF BULK AT MOST 1048576: true; the input reads as it did. -/
def fnPaceAzureUptoRow : OpenClaim := { program := "ytgdjplpbpknfmaa", sum := "2a46b920cfc9cab1a9809b031135bde984cbd9c37f18e5ba4d266dbf447f28cc", func := "pub-longboat/laws.FnPaceAzure", spec := "fnPaceAzure", apart := false, narrowed := true }
def FnPaceAzureUptoSaid : Prop := fnPaceAzureUptoRow.holds Try.pinned (OpenSpec.upto fnPaceAzureSpec)

/-- 'laws.FnPaceS3', WHERE WHAT IT READS IS OF BULK AT MOST 1048576: true; the input reads as it did. -/
def fnPaceS3UptoRow : OpenClaim := { program := "ytgdjplpbpknfmaa", sum := "2a46b920cfc9cab1a9809b031135bde984cbd9c37f18e5ba4d266dbf447f28cc", func := "pub-longboat/laws.FnPaceS3", spec := "fnPaceS3", unfollowed := true, recurses := true, apart := false, narrowed := true }
def FnPaceS3UptoSaid : Prop := fnPaceS3UptoRow.holds Try.pinned (OpenSpec.upto fnPaceS3Spec)

/-- 'laws.FnPaceEnds', WHERE WHAT IT READS IS OF BULK AT MOST 1048576: true; the input reads as it did. -/
def fnPaceEndsUptoRow : OpenClaim := { program := "ytgdjplpbpknfmaa", sum := "2a46b920cfc9cab1a9809b031135bde984cbd9c37f18e5ba4d266dbf447f28cc", func := "pub-longboat/laws.FnPaceEnds", spec := "fnPaceEnds", unfollowed := true, recurses := true, apart := false, narrowed := true }
def FnPaceEndsUptoSaid : Prop := fnPaceEndsUptoRow.holds Try.pinned (OpenSpec.upto fnPaceEndsSpec)

/-- 'laws.FnPaceRuns', WHERE WHAT IT READS IS OF BULK AT MOST 1048576: true; the input reads as it did. -/
def fnPaceRunsUptoRow : OpenClaim := { program := "ytgdjplpbpknfmaa", sum := "2a46b920cfc9cab1a9809b031135bde984cbd9c37f18e5ba4d266dbf447f28cc", func := "pub-longboat/laws.FnPaceRuns", spec := "fnPaceRuns", unfollowed := true, recurses := true, apart := false, narrowed := true }
def FnPaceRunsUptoSaid : Prop := fnPaceRunsUptoRow.holds Try.pinned (OpenSpec.upto fnPaceRunsSpec)

end Rows
end Go.Proofs.Ytgdjplpbpknfmaa
