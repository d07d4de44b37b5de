-- Written by a program of this session.
import Derived.Test.YtkdmdoflfaldiaaPDxk
namespace Go.Proofs.Ytkdmdoflfaldiaa.PD
open Go.RowKit Go.Proofs.YtkdmdoflfaldiaaW.PrintWords Go.Proofs.YtkdmdoflfaldiaaW.PrintLast Go.Proofs.YtkdmdoflfaldiaaW.PrintMore
attribute [local go_sem] max2_int min2_int max_two min_two max_three min_three max_four min_four   -- for this text's walks alone
set_option linter.unusedVariables false
set_option linter.unusedSimpArgs false

end Go.Proofs.Ytkdmdoflfaldiaa.PD
