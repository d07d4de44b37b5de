/-
  No cell of these rows narrows 'for every input' (looked for: loops, veiled, ifaces, maps, wideKeys, modest, calm, conditions, laid).
  DERIVED. THE GIVEN ROWS OF THIS SEAT. 8 by the template 'for every input the law returns true; each argument reads behind the call as it read before'; 0 by the template 'total and deterministic' (their statements: YtmkhkkfliecfdaaTotals.lean).
  GIVEN WITH THE SEED: the statements are not yours to turn. If you find one false, say at which input.
  Laid BY PROGRAM, IN A SANDBOX (cutbox-rows.mjs): the forced cells as the released guide's own fill.sh prints them over the translation 7c06a97c7aa0392d… (all of the seat's roots in one cut). By AI agents, Wed Nov 11 2026. No macro, syntax, notation, axiom, sorry.
-/
import Derived.Test.YtmkhkkfliecfdaaChecked
import GoSem.Claim
import GoSem.ClaimJoined
import GoSem.ClaimMapViews
import Derived.JoinedTies
import Derived.KernelRfl
namespace Go.Proofs.Ytmkhkkfliecfdaa
/- THE CELL 'sum', in the pinned program and in every row, IS THE sha256 OF THE DUMP (.gsa) THAT YtmkhkkfliecfdaaProg.lean LOADS. Nothing in Lean hashes anything: it is a label: what it is worth is what the hold of that sum in a sandbox is worth. -/
noncomputable def Try.pinned : Pinned := { name := "ytmkhkkfliecfdaa", sum := "7c06a97c7aa0392d06b7f4001afd9ce24d8cf228131d0523738b62ccb1ab7efe", checked := Try.checked }
namespace Rows
def none {H : Type} : Left H := { results := [], args := [] }

/-- 'laws.FnRangesFind': WHATEVER THE INPUT: true; the input reads as it did. -/
def fnRangesFindSpec : ChangeSpec := { name := "fnRangesFind", fn := fun _ => fun
  | [d1, d2] => { results := [.lit (.bool true)], args := [d1, d2] }
  | _ => none }
def fnRangesFindRow : OpenClaim := { program := "ytmkhkkfliecfdaa", sum := "7c06a97c7aa0392d06b7f4001afd9ce24d8cf228131d0523738b62ccb1ab7efe", func := "pub-longboat/laws.FnRangesFind", spec := "fnRangesFind", unfollowed := true, recurses := true, apart := false }
def FnRangesFindSaid : Prop := fnRangesFindRow.holds Try.pinned (OpenSpec.ofChange fnRangesFindSpec)

/-- ITS FALSE NEIGHBOUR: 'it returns false'. Refute it at one input. -/
def fnRangesFindWrong : ChangeSpec := { name := "fnRangesFind", fn := fun _ => fun
  | [d1, d2] => { results := [.lit (.bool false)], args := [d1, d2] }
  | _ => none }
def FnRangesFindWrongFalsely : Prop := fnRangesFindRow.holds Try.pinned (OpenSpec.ofChange fnRangesFindWrong)

/-- 'laws.FnRangesShift': WHATEVER THE INPUT: true; the input reads as it did. -/
def fnRangesShiftSpec : ChangeSpec := { name := "fnRangesShift", fn := fun _ => fun
  | [d1, d2, d3] => { results := [.lit (.bool true)], args := [d1, d2, d3] }
  | _ => none }
def fnRangesShiftRow : OpenClaim := { program := "ytmkhkkfliecfdaa", sum := "7c06a97c7aa0392d06b7f4001afd9ce24d8cf228131d0523738b62ccb1ab7efe", func := "pub-longboat/laws.FnRangesShift", spec := "fnRangesShift", unfollowed := true, recurses := true, apart := false }
def FnRangesShiftSaid : Prop := fnRangesShiftRow.holds Try.pinned (OpenSpec.ofChange fnRangesShiftSpec)

/-- ITS FALSE NEIGHBOUR: 'it returns false'. Refute it at one input. -/
def fnRangesShiftWrong : ChangeSpec := { name := "fnRangesShift", fn := fun _ => fun
  | [d1, d2, d3] => { results := [.lit (.bool false)], args := [d1, d2, d3] }
  | _ => none }
def FnRangesShiftWrongFalsely : Prop := fnRangesShiftRow.holds Try.pinned (OpenSpec.ofChange fnRangesShiftWrong)

/-- 'laws.FnRangeBoth': WHATEVER THE INPUT: true; the input reads as it did. -/
def fnRangeBothSpec : ChangeSpec := { name := "fnRangeBoth", fn := fun _ => fun
  | [d1, d2] => { results := [.lit (.bool true)], args := [d1, d2] }
  | _ => none }
def fnRangeBothRow : OpenClaim := { program := "ytmkhkkfliecfdaa", sum := "7c06a97c7aa0392d06b7f4001afd9ce24d8cf228131d0523738b62ccb1ab7efe", func := "pub-longboat/laws.FnRangeBoth", spec := "fnRangeBoth", unfollowed := true, recurses := true, apart := false }
def FnRangeBothSaid : Prop := fnRangeBothRow.holds Try.pinned (OpenSpec.ofChange fnRangeBothSpec)

/-- ITS FALSE NEIGHBOUR: 'it returns false'. Refute it at one input. -/
def fnRangeBothWrong : ChangeSpec := { name := "fnRangeBoth", fn := fun _ => fun
  | [d1, d2] => { results := [.lit (.bool false)], args := [d1, d2] }
  | _ => none }
def FnRangeBothWrongFalsely : Prop := fnRangeBothRow.holds Try.pinned (OpenSpec.ofChange fnRangeBothWrong)

/-- 'laws.FnRangesPresent': WHATEVER THE INPUT: true; the input reads as it did. -/
def fnRangesPresentSpec : ChangeSpec := { name := "fnRangesPresent", fn := fun _ => fun
  | [d1, d2] => { results := [.lit (.bool true)], args := [d1, d2] }
  | _ => none }
def fnRangesPresentRow : OpenClaim := { program := "ytmkhkkfliecfdaa", sum := "7c06a97c7aa0392d06b7f4001afd9ce24d8cf228131d0523738b62ccb1ab7efe", func := "pub-longboat/laws.FnRangesPresent", spec := "fnRangesPresent", unfollowed := true, recurses := true, apart := false }
def FnRangesPresentSaid : Prop := fnRangesPresentRow.holds Try.pinned (OpenSpec.ofChange fnRangesPresentSpec)

/-- ITS FALSE NEIGHBOUR: 'it returns false'. Refute it at one input. -/
def fnRangesPresentWrong : ChangeSpec := { name := "fnRangesPresent", fn := fun _ => fun
  | [d1, d2] => { results := [.lit (.bool false)], args := [d1, d2] }
  | _ => none }
def FnRangesPresentWrongFalsely : Prop := fnRangesPresentRow.holds Try.pinned (OpenSpec.ofChange fnRangesPresentWrong)

/-- 'laws.FnRangesEqual': WHATEVER THE INPUT: true; the input reads as it did. -/
def fnRangesEqualSpec : ChangeSpec := { name := "fnRangesEqual", fn := fun _ => fun
  | [d1, d2] => { results := [.lit (.bool true)], args := [d1, d2] }
  | _ => none }
def fnRangesEqualRow : OpenClaim := { program := "ytmkhkkfliecfdaa", sum := "7c06a97c7aa0392d06b7f4001afd9ce24d8cf228131d0523738b62ccb1ab7efe", func := "pub-longboat/laws.FnRangesEqual", spec := "fnRangesEqual", unfollowed := true, recurses := true, apart := false }
def FnRangesEqualSaid : Prop := fnRangesEqualRow.holds Try.pinned (OpenSpec.ofChange fnRangesEqualSpec)

/-- ITS FALSE NEIGHBOUR: 'it returns false'. Refute it at one input. -/
def fnRangesEqualWrong : ChangeSpec := { name := "fnRangesEqual", fn := fun _ => fun
  | [d1, d2] => { results := [.lit (.bool false)], args := [d1, d2] }
  | _ => none }
def FnRangesEqualWrongFalsely : Prop := fnRangesEqualRow.holds Try.pinned (OpenSpec.ofChange fnRangesEqualWrong)

/-- 'laws.FnRangesOrder': WHATEVER THE INPUT: true; the input reads as it did. -/
def fnRangesOrderSpec : ChangeSpec := { name := "fnRangesOrder", fn := fun _ => fun
  | [d1, d2] => { results := [.lit (.bool true)], args := [d1, d2] }
  | _ => none }
def fnRangesOrderRow : OpenClaim := { program := "ytmkhkkfliecfdaa", sum := "7c06a97c7aa0392d06b7f4001afd9ce24d8cf228131d0523738b62ccb1ab7efe", func := "pub-longboat/laws.FnRangesOrder", spec := "fnRangesOrder", unfollowed := true, recurses := true, apart := false }
def FnRangesOrderSaid : Prop := fnRangesOrderRow.holds Try.pinned (OpenSpec.ofChange fnRangesOrderSpec)

/-- ITS FALSE NEIGHBOUR: 'it returns false'. Refute it at one input. -/
def fnRangesOrderWrong : ChangeSpec := { name := "fnRangesOrder", fn := fun _ => fun
  | [d1, d2] => { results := [.lit (.bool false)], args := [d1, d2] }
  | _ => none }
def FnRangesOrderWrongFalsely : Prop := fnRangesOrderRow.holds Try.pinned (OpenSpec.ofChange fnRangesOrderWrong)

/-- 'laws.FnRangesTwo': WHATEVER THE INPUT: true; the input reads as it did. -/
def fnRangesTwoSpec : ChangeSpec := { name := "fnRangesTwo", fn := fun _ => fun
  | [d1, d2] => { results := [.lit (.bool true)], args := [d1, d2] }
  | _ => none }
def fnRangesTwoRow : OpenClaim := { program := "ytmkhkkfliecfdaa", sum := "7c06a97c7aa0392d06b7f4001afd9ce24d8cf228131d0523738b62ccb1ab7efe", func := "pub-longboat/laws.FnRangesTwo", spec := "fnRangesTwo", unfollowed := true, recurses := true, apart := false }
def FnRangesTwoSaid : Prop := fnRangesTwoRow.holds Try.pinned (OpenSpec.ofChange fnRangesTwoSpec)

/-- ITS FALSE NEIGHBOUR: 'it returns false'. Refute it at one input. -/
def fnRangesTwoWrong : ChangeSpec := { name := "fnRangesTwo", fn := fun _ => fun
  | [d1, d2] => { results := [.lit (.bool false)], args := [d1, d2] }
  | _ => none }
def FnRangesTwoWrongFalsely : Prop := fnRangesTwoRow.holds Try.pinned (OpenSpec.ofChange fnRangesTwoWrong)

/-- 'laws.FnRangesMissing': WHATEVER THE INPUT: true; the input reads as it did. -/
def fnRangesMissingSpec : ChangeSpec := { name := "fnRangesMissing", fn := fun _ => fun
  | [d1, d2] => { results := [.lit (.bool true)], args := [d1, d2] }
  | _ => none }
def fnRangesMissingRow : OpenClaim := { program := "ytmkhkkfliecfdaa", sum := "7c06a97c7aa0392d06b7f4001afd9ce24d8cf228131d0523738b62ccb1ab7efe", func := "pub-longboat/laws.FnRangesMissing", spec := "fnRangesMissing", unfollowed := true, recurses := true, apart := false }
def FnRangesMissingSaid : Prop := fnRangesMissingRow.holds Try.pinned (OpenSpec.ofChange fnRangesMissingSpec)

/-- ITS FALSE NEIGHBOUR: 'it returns false'. Refute it at one input. -/
def fnRangesMissingWrong : ChangeSpec := { name := "fnRangesMissing", fn := fun _ => fun
  | [d1, d2] => { results := [.lit (.bool false)], args := [d1, d2] }
  | _ => none }
def FnRangesMissingWrongFalsely : Prop := fnRangesMissingRow.holds Try.pinned (OpenSpec.ofChange fnRangesMissingWrong)

/- THE SECOND FORM. 'bulk': how many values and letters a reading holds, each counted each time it is reached (what is shared counts as often as it is met; a slice's spare places count too). A statement '..UptoSaid' is the law's where the arguments, and the package variables that the reading takes, are together of bulk at most 1048576: NARROWER than '..Said'. Prove '..Said' where nothing that the law and all that it calls make is longer than what came in: it says more and counts as full. Else prove '..UptoSaid'. A law counts once. -/
mutual
def uptoBulk {H : Type} : DataW H → Nat
  | .lit (.string bytes) => bytes.length + 1
  | .lit _ => 1
  | .nil => 1
  | .ptr d => uptoBulk d + 1
  | .slice elems spare => uptoBulkAll elems + uptoBulkAll spare + 1
  | .agg parts => uptoBulkAll parts + 1
  | .iface _ d => uptoBulk d + 1
  | .map entries => uptoBulkEntries entries + 1
  | .held _ => 1
def uptoBulkAll {H : Type} : List (DataW H) → Nat
  | [] => 0
  | d :: r => uptoBulk d + uptoBulkAll r
def uptoBulkEntries {H : Type} : List (Lit × DataW H) → Nat
  | [] => 0
  | x :: r => uptoBulkEntry x + uptoBulkEntries r
def uptoBulkEntry {H : Type} : Lit × DataW H → Nat
  | (.string bytes, d) => bytes.length + uptoBulk d + 1
  | (_, d) => uptoBulk d + 1
 end
def uptoSmall : (H : Type) → List (DataW H) → Bool := fun _ ds => decide (uptoBulkAll ds ≤ 1048576)
def OpenSpec.upto (s : _root_.Go.ChangeSpec) : _root_.Go.OpenSpec := { _root_.Go.OpenSpec.ofChange s with cond := some uptoSmall }

/-- 'laws.FnRangesFind', WHERE WHAT IT READS IS OF BULK AT MOST 1048576: true; the input reads as it did. -/
def fnRangesFindUptoRow : OpenClaim := { program := "ytmkhkkfliecfdaa", sum := "7c06a97c7aa0392d06b7f4001afd9ce24d8cf228131d0523738b62ccb1ab7efe", func := "pub-longboat/laws.FnRangesFind", spec := "fnRangesFind", unfollowed := true, recurses := true, apart := false, narrowed := true }
def FnRangesFindUptoSaid : Prop := fnRangesFindUptoRow.holds Try.pinned (OpenSpec.upto fnRangesFindSpec)

/-- 'laws.FnRangesShift', WHERE WHAT IT READS IS OF BULK AT MOST 1048576: true; the input reads as it did. -/
def fnRangesShiftUptoRow : OpenClaim := { program := "ytmkhkkfliecfdaa", sum := "7c06a97c7aa0392d06b7f4001afd9ce24d8cf228131d0523738b62ccb1ab7efe", func := "pub-longboat/laws.FnRangesShift", spec := "fnRangesShift", unfollowed := true, recurses := true, apart := false, narrowed := true }
def FnRangesShiftUptoSaid : Prop := fnRangesShiftUptoRow.holds Try.pinned (OpenSpec.upto fnRangesShiftSpec)

/-- 'laws.FnRangeBoth', WHERE WHAT IT READS IS OF BULK AT MOST 1048576: true; the input reads as it did. -/
def fnRangeBothUptoRow : OpenClaim := { program := "ytmkhkkfliecfdaa", sum := "7c06a97c7aa0392d06b7f4001afd9ce24d8cf228131d0523738b62ccb1ab7efe", func := "pub-longboat/laws.FnRangeBoth", spec := "fnRangeBoth", unfollowed := true, recurses := true, apart := false, narrowed := true }
def FnRangeBothUptoSaid : Prop := fnRangeBothUptoRow.holds Try.pinned (OpenSpec.upto fnRangeBothSpec)

/-- 'laws.FnRangesPresent', WHERE WHAT IT READS IS OF BULK AT MOST 1048576: true; the input reads as it did. -/
def fnRangesPresentUptoRow : OpenClaim := { program := "ytmkhkkfliecfdaa", sum := "7c06a97c7aa0392d06b7f4001afd9ce24d8cf228131d0523738b62ccb1ab7efe", func := "pub-longboat/laws.FnRangesPresent", spec := "fnRangesPresent", unfollowed := true, recurses := true, apart := false, narrowed := true }
def FnRangesPresentUptoSaid : Prop := fnRangesPresentUptoRow.holds Try.pinned (OpenSpec.upto fnRangesPresentSpec)

/-- 'laws.FnRangesEqual', WHERE WHAT IT READS IS OF BULK AT MOST 1048576: true; the input reads as it did. -/
def fnRangesEqualUptoRow : OpenClaim := { program := "ytmkhkkfliecfdaa", sum := "7c06a97c7aa0392d06b7f4001afd9ce24d8cf228131d0523738b62ccb1ab7efe", func := "pub-longboat/laws.FnRangesEqual", spec := "fnRangesEqual", unfollowed := true, recurses := true, apart := false, narrowed := true }
def FnRangesEqualUptoSaid : Prop := fnRangesEqualUptoRow.holds Try.pinned (OpenSpec.upto fnRangesEqualSpec)

/-- 'laws.FnRangesOrder', WHERE WHAT IT READS IS OF BULK AT MOST 1048576: true; the input reads as it did. -/
def fnRangesOrderUptoRow : OpenClaim := { program := "ytmkhkkfliecfdaa", sum := "7c06a97c7aa0392d06b7f4001afd9ce24d8cf228131d0523738b62ccb1ab7efe", func := "pub-longboat/laws.FnRangesOrder", spec := "fnRangesOrder", unfollowed := true, recurses := true, apart := false, narrowed := true }
def FnRangesOrderUptoSaid : Prop := fnRangesOrderUptoRow.holds Try.pinned (OpenSpec.upto fnRangesOrderSpec)

/-- 'laws.FnRangesTwo', WHERE WHAT IT READS IS OF BULK AT MOST 1048576: true; the input reads as it did. -/
def fnRangesTwoUptoRow : OpenClaim := { program := "ytmkhkkfliecfdaa", sum := "7c06a97c7aa0392d06b7f4001afd9ce24d8cf228131d0523738b62ccb1ab7efe", func := "pub-longboat/laws.FnRangesTwo", spec := "fnRangesTwo", unfollowed := true, recurses := true, apart := false, narrowed := true }
def FnRangesTwoUptoSaid : Prop := fnRangesTwoUptoRow.holds Try.pinned (OpenSpec.upto fnRangesTwoSpec)

/-- 'laws.FnRangesMissing', WHERE WHAT IT READS IS OF BULK AT MOST 1048576: true; the input reads as it did. -/
def fnRangesMissingUptoRow : OpenClaim := { program := "ytmkhkkfliecfdaa", sum := "7c06a97c7aa0392d06b7f4001afd9ce24d8cf228131d0523738b62ccb1ab7efe", func := "pub-longboat/laws.FnRangesMissing", spec := "fnRangesMissing", unfollowed := true, recurses := true, apart := false, narrowed := true }
def FnRangesMissingUptoSaid : Prop := fnRangesMissingUptoRow.holds Try.pinned (OpenSpec.upto fnRangesMissingSpec)

end Rows
end Go.Proofs.Ytmkhkkfliecfdaa
