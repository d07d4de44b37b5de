-- Written by a program of this session.
import Derived.Test.YtgdjplpbpknfmaaPRxk
import Derived.Test.YtgdjplpbpknfmaaGiven
import Derived.Test.YtgdjplpbpknfmaaGivenTwo
namespace Go.Proofs.Ytgdjplpbpknfmaa.PR
open Go.RowKit Go.Proofs.YtgdjplpbpknfmaaW.PrintWords Go.Proofs.YtgdjplpbpknfmaaW.PrintLast Go.Proofs.YtgdjplpbpknfmaaW.PrintMore Go.Proofs.Ytgdjplpbpknfmaa.Given
attribute [local go_sem] max2_int min2_int max_two min_two max_three min_three max_four min_four   -- for this text's walks alone
set_option linter.unusedVariables false
set_option linter.unusedSimpArgs false

end Go.Proofs.Ytgdjplpbpknfmaa.PR
