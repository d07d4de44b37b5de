-- Written by a program of this session.
import Derived.Test.YtkdmdoflfaldiaaDoorProg
import Derived.Below
import Derived.Deep.Draws
import Derived.Deep.AppendLies
import Derived.Maps.AppendAt
import Derived.OwnWalk
import Derived.Laws.BytesArg
import Derived.Laws.MakeOwn
import Derived.Laws.OwnMore
import Derived.Deep.OwnRows
import Derived.Tactics
import Derived.Lib.ConvBytes
import Derived.Laws.Slices
import Derived.WalkKit
import Derived.KernelRfl
import Derived.RowKit3
import Derived.Deep.LoopGhost
import Derived.Deep.QuietTactic
import Derived.BigQuiet
import Derived.WideLaws
import Derived.Deep.DeepCutAuto
import Derived.Deep.CutBlock
import Derived.Deep.RegionHeld3
import Derived.Laws.Rows
import Derived.Lib.AppendStr
import Derived.ArgAppend
import Derived.Laws.IdiomCopy
import Derived.OrdersHeld
import Derived.Laws.BitsLemmas
import Derived.RowKit
import Derived.Test.YtkdmdoflfaldiaaDoorWWords
import Derived.Test.YtkdmdoflfaldiaaDoorWLast
import Derived.Test.YtkdmdoflfaldiaaDoorWTab
import Derived.Test.YtkdmdoflfaldiaaDoorWFour
import Derived.Test.YtkdmdoflfaldiaaDoorWQPut
import Derived.Test.YtkdmdoflfaldiaaDoorWApart
import Derived.Test.YtkdmdoflfaldiaaDoorWArr
import Derived.Test.YtkdmdoflfaldiaaDoorWZeros
import Derived.Test.YtkdmdoflfaldiaaDoorWFoot
import Derived.Test.YtkdmdoflfaldiaaDoorWKept
import Derived.Test.YtkdmdoflfaldiaaDoorWShare
import Derived.Test.YtkdmdoflfaldiaaDoorWN
import Derived.Test.YtkdmdoflfaldiaaDoorWFootNe
import Derived.Test.YtkdmdoflfaldiaaDoorWAt
import Derived.Test.YtkdmdoflfaldiaaDoorWEqStruct
import Derived.Test.YtkdmdoflfaldiaaDoorWRepsOne
import Derived.Test.YtkdmdoflfaldiaaDoorWInv
import Derived.Test.YtkdmdoflfaldiaaDoorWInvWords
import Derived.Test.YtkdmdoflfaldiaaDoorWGuard
import Derived.Test.YtkdmdoflfaldiaaDoorWNEv
import Derived.Test.YtkdmdoflfaldiaaDoorWMore
namespace Go.Proofs.YtkdmdoflfaldiaaDoor.PC
open Go.RowKit Go.Proofs.YtkdmdoflfaldiaaDoorW.PrintWords Go.Proofs.YtkdmdoflfaldiaaDoorW.PrintLast Go.Proofs.YtkdmdoflfaldiaaDoorW.PrintMore
attribute [local go_sem] max2_int min2_int max_two min_two max_three min_three max_four min_four   -- for this text's walks alone
set_option linter.unusedVariables false
set_option linter.unusedSimpArgs false



def errW : Option Int → Value
  | none => .nilIface
  | some c => .iface 45 (.int .i64 c)
theorem errW_none : errW none = .nilIface := rfl
theorem errW_some (c : Int) : errW (some c) = .iface 45 (.int .i64 c) := rfl

-- the values' own types

end Go.Proofs.YtkdmdoflfaldiaaDoor.PC
