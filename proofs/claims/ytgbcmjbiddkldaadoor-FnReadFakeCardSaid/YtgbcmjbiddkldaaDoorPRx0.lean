-- Written by a program of this session.
import Derived.Test.YtgbcmjbiddkldaaDoorPRxk
namespace Go.Proofs.YtgbcmjbiddkldaaDoor.PR
open Go.RowKit Go.Proofs.YtgbcmjbiddkldaaDoorW.PrintWords Go.Proofs.YtgbcmjbiddkldaaDoorW.PrintLast Go.Proofs.YtgbcmjbiddkldaaDoorW.PrintMore
attribute [local go_sem] max2_int min2_int max_two min_two max_three min_three max_four min_four   -- for this text's walks alone
set_option linter.unusedVariables false
set_option linter.unusedSimpArgs false

end Go.Proofs.YtgbcmjbiddkldaaDoor.PR
