/- An element of an array of two whole numbers at a place that is known by its bounds alone. -/
import Derived.Test.YtmkhkkfliecfdaaProg
import Derived.WalkKit
import Derived.KernelRfl
namespace Go.Proofs.Ytmkhkkfliecfdaa.Given
open Go.RowKit
def pick2 (j p q : Int) : Int := if j = 0 then p else q
theorem i0 (p q : Int) (w : World) : (Instr.index 70 (.agg #[.int .i64 p, .int .i64 q]) (.int .i64 0)).run Try.prog w = .ok (.int .i64 p) w := by kernel_rfl
theorem i1 (p q : Int) (w : World) : (Instr.index 70 (.agg #[.int .i64 p, .int .i64 q]) (.int .i64 1)).run Try.prog w = .ok (.int .i64 q) w := by kernel_rfl
theorem idx70 (j p q : Int) (w : World) (h0 : decide (0 ≤ j) = true) (h1 : decide (j < 2) = true) : (Instr.index 70 (.agg #[.int .i64 p, .int .i64 q]) (.int .i64 j)).run Try.prog w = .ok (.int .i64 (pick2 j p q)) w := by
  have h2 := of_decide_eq_true h0
  have h3 := of_decide_eq_true h1
  have h : j = 0 ∨ j = 1 := by omega
  rcases h with rfl | rfl
  · exact i0 p q w
  · exact i1 p q w
end Go.Proofs.Ytmkhkkfliecfdaa.Given
