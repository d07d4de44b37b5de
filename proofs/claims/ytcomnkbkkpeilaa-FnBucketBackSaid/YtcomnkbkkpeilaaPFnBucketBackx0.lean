-- Written by a program of this session.
import Derived.Test.YtcomnkbkkpeilaaProg
import Derived.Below
import Derived.Deep.Draws
import Derived.Deep.AppendLies
import Derived.Maps.AppendAt
import Derived.OwnWalk
import Derived.Laws.BytesArg
import Derived.Laws.MakeOwn
import Derived.Laws.OwnMore
import Derived.Deep.OwnRows
import Derived.Tactics
import Derived.Lib.ConvBytes
import Derived.Laws.Slices
import Derived.WalkKit
import Derived.KernelRfl
import Derived.RowKit3
import Derived.Deep.LoopGhost
import Derived.Deep.QuietTactic
import Derived.BigQuiet
import Derived.WideLaws
import Derived.Deep.DeepCutAuto
import Derived.Deep.CutBlock
import Derived.Deep.RegionHeld3
import Derived.Laws.Rows
import Derived.Lib.AppendStr
import Derived.ArgAppend
import Derived.Laws.IdiomCopy
import Derived.OrdersHeld
import Derived.Laws.BitsLemmas
import Derived.RowKit
import Derived.Test.YtcomnkbkkpeilaaGiven
import Derived.Test.YtcomnkbkkpeilaaWWords
import Derived.Test.YtcomnkbkkpeilaaWLast
import Derived.Test.YtcomnkbkkpeilaaWTab
import Derived.Test.YtcomnkbkkpeilaaWFour
import Derived.Test.YtcomnkbkkpeilaaWQPut
import Derived.Test.YtcomnkbkkpeilaaWApart
import Derived.Test.YtcomnkbkkpeilaaWArr
import Derived.Test.YtcomnkbkkpeilaaWZeros
import Derived.Test.YtcomnkbkkpeilaaWFoot
import Derived.Test.YtcomnkbkkpeilaaWKept
import Derived.Test.YtcomnkbkkpeilaaWShare
import Derived.Test.YtcomnkbkkpeilaaWN
import Derived.Test.YtcomnkbkkpeilaaWFootNe
import Derived.Test.YtcomnkbkkpeilaaWAt
import Derived.Test.YtcomnkbkkpeilaaWEqStruct
import Derived.Test.YtcomnkbkkpeilaaWRepsOne
import Derived.Test.YtcomnkbkkpeilaaWInv
import Derived.Test.YtcomnkbkkpeilaaWInvWords
import Derived.Test.YtcomnkbkkpeilaaWGuard
import Derived.Test.YtcomnkbkkpeilaaWNEv
import Derived.Test.YtcomnkbkkpeilaaWMore
namespace Go.Proofs.Ytcomnkbkkpeilaa.PFnBucketBack
open Go.RowKit Go.Proofs.YtcomnkbkkpeilaaW.PrintWords Go.Proofs.YtcomnkbkkpeilaaW.PrintLast Go.Proofs.YtcomnkbkkpeilaaW.PrintMore Go.Proofs.Ytcomnkbkkpeilaa.Given
attribute [local go_sem] max2_int min2_int max_two min_two max_three min_three max_four min_four   -- for this text's walks alone
set_option linter.unusedVariables false
set_option linter.unusedSimpArgs false



def errW : Option Int → Value
  | none => .nilIface
  | some c => .iface 0 (.int .i64 c)
theorem errW_none : errW none = .nilIface := rfl
theorem errW_some (c : Int) : errW (some c) = .iface 0 (.int .i64 c) := rfl

-- the values' own types

end Go.Proofs.Ytcomnkbkkpeilaa.PFnBucketBack
