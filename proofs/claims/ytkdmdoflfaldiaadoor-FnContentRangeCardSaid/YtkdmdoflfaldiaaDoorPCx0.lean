-- Written by a program of this session.
import Derived.Test.YtkdmdoflfaldiaaDoorPCxk
namespace Go.Proofs.YtkdmdoflfaldiaaDoor.PC
open Go.RowKit Go.Proofs.YtkdmdoflfaldiaaDoorW.PrintWords Go.Proofs.YtkdmdoflfaldiaaDoorW.PrintLast Go.Proofs.YtkdmdoflfaldiaaDoorW.PrintMore
attribute [local go_sem] max2_int min2_int max_two min_two max_three min_three max_four min_four   -- for this text's walks alone
set_option linter.unusedVariables false
set_option linter.unusedSimpArgs false

end Go.Proofs.YtkdmdoflfaldiaaDoor.PC
