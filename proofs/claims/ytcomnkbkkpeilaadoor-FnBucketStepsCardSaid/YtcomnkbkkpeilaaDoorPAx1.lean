-- Written by a program of this session.
import Derived.Test.YtcomnkbkkpeilaaDoorPAx0
namespace Go.Proofs.YtcomnkbkkpeilaaDoor.PA
open Go.RowKit Go.Proofs.YtcomnkbkkpeilaaDoorW.PrintWords Go.Proofs.YtcomnkbkkpeilaaDoorW.PrintLast Go.Proofs.YtcomnkbkkpeilaaDoorW.PrintMore Go.Proofs.YtcomnkbkkpeilaaDoor.Given
attribute [local go_sem] max2_int min2_int max_two min_two max_three min_three max_four min_four   -- for this text's walks alone
set_option linter.unusedVariables false
set_option linter.unusedSimpArgs false

theorem eqA30 (d : Nat) (w : World) (x0 y0 : Bool) (x1 y1 : Bool) (x2 y2 : Bool) (x3 y3 : Int) :
    (Op.equalIn (d + 2) 30 (.agg #[.bool x0, .bool x1, .bool x2, .int .i64 x3]) (.agg #[.bool y0, .bool y1, .bool y2, .int .i64 y3])).run Tryd.prog w = .ok (x0 == y0 && (x1 == y1 && (x2 == y2 && (x3 == y3)))) w := by
  refine eqA_of Tryd.underlying30 (by kernel_rfl) ?_
  refine eqf_cons (by rfl) (by go_simp; rfl) (by go_simp; rfl) (by go_simp) ?_
  refine eqf_cons (by rfl) (by go_simp; rfl) (by go_simp; rfl) (by go_simp) ?_
  refine eqf_cons (by rfl) (by go_simp; rfl) (by go_simp; rfl) (by go_simp) ?_
  exact eqf_last (by rfl) (by go_simp; rfl) (by go_simp; rfl) (by go_simp)
end Go.Proofs.YtcomnkbkkpeilaaDoor.PA
