-- Written by a program of this session.
import Derived.Test.YtjabjcgomnjpcaaDoorPMxk
namespace Go.Proofs.YtjabjcgomnjpcaaDoor.PM
open Go.RowKit Go.Proofs.YtjabjcgomnjpcaaDoorW.PrintWords Go.Proofs.YtjabjcgomnjpcaaDoorW.PrintLast Go.Proofs.YtjabjcgomnjpcaaDoorW.PrintMore
attribute [local go_sem] max2_int min2_int max_two min_two max_three min_three max_four min_four   -- for this text's walks alone
set_option linter.unusedVariables false
set_option linter.unusedSimpArgs false

end Go.Proofs.YtjabjcgomnjpcaaDoor.PM
