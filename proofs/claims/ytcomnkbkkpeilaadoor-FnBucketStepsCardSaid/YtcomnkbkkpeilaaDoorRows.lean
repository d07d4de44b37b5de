/-
  NARROWER THAN 'FOR EVERY INPUT', by the rows' own cells (each row's printed sentence says how): FnBucketAsks: laid · FnBucketSteps: laid.
  DERIVED. THE GIVEN ROWS OF THIS SEAT. 2 by the template 'for every input the law returns true; each argument reads behind the call as it read before'; 0 by the template 'total and deterministic' (their statements: YtcomnkbkkpeilaaDoorTotals.lean).
  GIVEN WITH THE SEED: the statements are not yours to turn. If you find one false, say at which input.
  Laid BY PROGRAM, IN A SANDBOX (cutbox-rows.mjs): the forced cells as the released guide's own fill.sh prints them over the translation aa666db8b8e71603… (all of the seat's roots in one cut). By AI agents, Wed Nov 11 2026. No macro, syntax, notation, axiom, sorry.
-/
import Derived.Test.YtcomnkbkkpeilaaDoorChecked
import GoSem.Claim
import GoSem.ClaimJoined
import GoSem.ClaimMapViews
import Derived.JoinedTies
import Derived.KernelRfl
namespace Go.Proofs.YtcomnkbkkpeilaaDoor
/- THE CELL 'sum', in the pinned program and in every row, IS THE sha256 OF THE DUMP (.gsa) THAT YtcomnkbkkpeilaaDoorProg.lean LOADS. Nothing in Lean hashes anything: it is a label: what it is worth is what the hold of that sum in a sandbox is worth. -/
noncomputable def Tryd.pinned : Pinned := { name := "ytcomnkbkkpeilaadoor", sum := "aa666db8b8e716035993db3210195cad0a35a3da1c6893c819e26d7da83e92ba", checked := Tryd.checked }
namespace Rows
def none {H : Type} : Left H := { results := [], args := [] }

/- WHAT THE LISTED PACKAGE-LEVEL VARIABLES READ AS WHEN THE CALL BEGINS. Each datum BY PROGRAM (the guide's laid-datum.mjs) off the statement by which the dump's own 'gosem.cut.vars' lays the variable. In a bare row this is a premise. The card (YtcomnkbkkpeilaaDoorCards.lean) ties it to the program's text. -/
def laid_pub_longboat_pub_bucket_ErrAlreadyDeleted {H : Type} : DataW H := .iface "*errors.errorString" (.ptr (.agg [.lit (.string [98, 117, 99, 107, 101, 116, 32, 97, 108, 114, 101, 97, 100, 121, 32, 100, 101, 108, 101, 116, 101, 100])]))

/-- 'laws.FnBucketAsks': WHATEVER THE INPUT: true; the input reads as it did. -/
def fnBucketAsksSpec : ChangeSpec := { name := "fnBucketAsks", fn := fun _ => fun
  | [d] => { results := [.lit (.bool true)], args := [d] }
  | _ => none }
def fnBucketAsksRow : OpenClaim := { program := "ytcomnkbkkpeilaadoor", sum := "aa666db8b8e716035993db3210195cad0a35a3da1c6893c819e26d7da83e92ba", func := "pub-longboat/laws.FnBucketAsks", spec := "fnBucketAsks", unfollowed := true, recurses := true, named := ["pub-longboat/pub/bucket.ErrAlreadyDeleted"], apart := false, laid := [("pub-longboat/pub/bucket.ErrAlreadyDeleted", laid_pub_longboat_pub_bucket_ErrAlreadyDeleted)] }
def FnBucketAsksSaid : Prop := fnBucketAsksRow.holds Tryd.pinned (OpenSpec.ofChange fnBucketAsksSpec)

/-- ITS FALSE NEIGHBOUR: 'it returns false'. Refute it at one input. -/
def fnBucketAsksWrong : ChangeSpec := { name := "fnBucketAsks", fn := fun _ => fun
  | [d] => { results := [.lit (.bool false)], args := [d] }
  | _ => none }
def FnBucketAsksWrongFalsely : Prop := fnBucketAsksRow.holds Tryd.pinned (OpenSpec.ofChange fnBucketAsksWrong)

/-- 'laws.FnBucketSteps': WHATEVER THE INPUT: true; the input reads as it did. -/
def fnBucketStepsSpec : ChangeSpec := { name := "fnBucketSteps", fn := fun _ => fun
  | [d] => { results := [.lit (.bool true)], args := [d] }
  | _ => none }
def fnBucketStepsRow : OpenClaim := { program := "ytcomnkbkkpeilaadoor", sum := "aa666db8b8e716035993db3210195cad0a35a3da1c6893c819e26d7da83e92ba", func := "pub-longboat/laws.FnBucketSteps", spec := "fnBucketSteps", unfollowed := true, recurses := true, named := ["pub-longboat/pub/bucket.ErrAlreadyDeleted"], apart := false, laid := [("pub-longboat/pub/bucket.ErrAlreadyDeleted", laid_pub_longboat_pub_bucket_ErrAlreadyDeleted)] }
def FnBucketStepsSaid : Prop := fnBucketStepsRow.holds Tryd.pinned (OpenSpec.ofChange fnBucketStepsSpec)

/-- ITS FALSE NEIGHBOUR: 'it returns false'. Refute it at one input. -/
def fnBucketStepsWrong : ChangeSpec := { name := "fnBucketSteps", fn := fun _ => fun
  | [d] => { results := [.lit (.bool false)], args := [d] }
  | _ => none }
def FnBucketStepsWrongFalsely : Prop := fnBucketStepsRow.holds Tryd.pinned (OpenSpec.ofChange fnBucketStepsWrong)

/- THE SECOND FORM. 'bulk': how many values and letters a reading holds, each counted each time it is reached (what is shared counts as often as it is met; a slice's spare places count too). A statement '..UptoSaid' is the law's where the arguments, and the package variables that the reading takes, are together of bulk at most 1048576: NARROWER than '..Said'. Prove '..Said' where nothing that the law and all that it calls make is longer than what came in: it says more and counts as full. Else prove '..UptoSaid'. A law counts once. -/
mutual
def uptoBulk {H : Type} : DataW H → Nat
  | .lit (.string bytes) => bytes.length + 1
  | .lit _ => 1
  | .nil => 1
  | .ptr d => uptoBulk d + 1
  | .slice elems spare => uptoBulkAll elems + uptoBulkAll spare + 1
  | .agg parts => uptoBulkAll parts + 1
  | .iface _ d => uptoBulk d + 1
  | .map entries => uptoBulkEntries entries + 1
  | .held _ => 1
def uptoBulkAll {H : Type} : List (DataW H) → Nat
  | [] => 0
  | d :: r => uptoBulk d + uptoBulkAll r
def uptoBulkEntries {H : Type} : List (Lit × DataW H) → Nat
  | [] => 0
  | x :: r => uptoBulkEntry x + uptoBulkEntries r
def uptoBulkEntry {H : Type} : Lit × DataW H → Nat
  | (.string bytes, d) => bytes.length + uptoBulk d + 1
  | (_, d) => uptoBulk d + 1
 end
def uptoSmall : (H : Type) → List (DataW H) → Bool := fun _ ds => decide (uptoBulkAll ds ≤ 1048576)
def OpenSpec.upto (s : _root_.Go.ChangeSpec) : _root_.Go.OpenSpec := { _root_.Go.OpenSpec.ofChange s with cond := some uptoSmall }

/-- 'laws.FnBucketAsks', WHERE WHAT IT READS IS OF BULK AT MOST 1048576: true; the input reads as it did. -/
def fnBucketAsksUptoRow : OpenClaim := { program := "ytcomnkbkkpeilaadoor", sum := "aa666db8b8e716035993db3210195cad0a35a3da1c6893c819e26d7da83e92ba", func := "pub-longboat/laws.FnBucketAsks", spec := "fnBucketAsks", unfollowed := true, recurses := true, named := ["pub-longboat/pub/bucket.ErrAlreadyDeleted"], apart := false, laid := [("pub-longboat/pub/bucket.ErrAlreadyDeleted", laid_pub_longboat_pub_bucket_ErrAlreadyDeleted)], narrowed := true }
def FnBucketAsksUptoSaid : Prop := fnBucketAsksUptoRow.holds Tryd.pinned (OpenSpec.upto fnBucketAsksSpec)

/-- 'laws.FnBucketSteps', WHERE WHAT IT READS IS OF BULK AT MOST 1048576: true; the input reads as it did. -/
def fnBucketStepsUptoRow : OpenClaim := { program := "ytcomnkbkkpeilaadoor", sum := "aa666db8b8e716035993db3210195cad0a35a3da1c6893c819e26d7da83e92ba", func := "pub-longboat/laws.FnBucketSteps", spec := "fnBucketSteps", unfollowed := true, recurses := true, named := ["pub-longboat/pub/bucket.ErrAlreadyDeleted"], apart := false, laid := [("pub-longboat/pub/bucket.ErrAlreadyDeleted", laid_pub_longboat_pub_bucket_ErrAlreadyDeleted)], narrowed := true }
def FnBucketStepsUptoSaid : Prop := fnBucketStepsUptoRow.holds Tryd.pinned (OpenSpec.upto fnBucketStepsSpec)

end Rows
end Go.Proofs.YtcomnkbkkpeilaaDoor
