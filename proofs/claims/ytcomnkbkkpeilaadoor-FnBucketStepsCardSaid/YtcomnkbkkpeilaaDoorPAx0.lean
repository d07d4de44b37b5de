-- Written by a program of this session.
import Derived.Test.YtcomnkbkkpeilaaDoorPAxk
import Derived.Test.YtcomnkbkkpeilaaDoorSteps
namespace Go.Proofs.YtcomnkbkkpeilaaDoor.PA
open Go.RowKit Go.Proofs.YtcomnkbkkpeilaaDoorW.PrintWords Go.Proofs.YtcomnkbkkpeilaaDoorW.PrintLast Go.Proofs.YtcomnkbkkpeilaaDoorW.PrintMore Go.Proofs.YtcomnkbkkpeilaaDoor.Given
attribute [local go_sem] max2_int min2_int max_two min_two max_three min_three max_four min_four   -- for this text's walks alone
set_option linter.unusedVariables false
set_option linter.unusedSimpArgs false

end Go.Proofs.YtcomnkbkkpeilaaDoor.PA
