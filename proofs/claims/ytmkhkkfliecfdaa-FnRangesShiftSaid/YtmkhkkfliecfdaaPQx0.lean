-- Written by a program of this session. -- slim
import Derived.Test.YtmkhkkfliecfdaaPQxk
import Derived.Test.YtmkhkkfliecfdaaGivenA
namespace Go.Proofs.Ytmkhkkfliecfdaa.PQ
open Go.RowKit Go.Proofs.YtmkhkkfliecfdaaW.PrintWords Go.Proofs.YtmkhkkfliecfdaaW.PrintLast Go.Proofs.Ytmkhkkfliecfdaa.Given Go.Proofs.Ytmkhkkfliecfdaa.Mm
attribute [local go_sem] mx_go mn_go
set_option linter.unusedVariables false
set_option linter.unusedSimpArgs false

end Go.Proofs.Ytmkhkkfliecfdaa.PQ
