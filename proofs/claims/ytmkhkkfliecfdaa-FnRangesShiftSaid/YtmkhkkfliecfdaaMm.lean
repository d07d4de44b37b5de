/- The greater and the lesser of two whole numbers, as a program's 'max' and 'min' tell them. -/
import Derived.Test.YtmkhkkfliecfdaaWWords
namespace Go.Proofs.Ytmkhkkfliecfdaa.Mm
open Go.RowKit
def mx (a b : Int) : Int := if a < b then b else a
def mn (a b : Int) : Int := if b < a then b else a
theorem mx_go (ats : Array TypeId) (ty : TypeId) (k k' : IntKind) (x y : Int) : Builtin.max_ ats ty #[.int k x, .int k' y] = pure (.int k (if x < y then y else x)) := by
  simp only [Builtin.max_, Builtin.max2, List.foldlM_cons, List.foldlM_nil, gt_iff_lt, bind_pure]
theorem mn_go (ats : Array TypeId) (ty : TypeId) (k k' : IntKind) (x y : Int) : Builtin.min_ ats ty #[.int k x, .int k' y] = pure (.int k (if y < x then y else x)) := by
  simp only [Builtin.min_, Builtin.min2, List.foldlM_cons, List.foldlM_nil, bind_pure]
end Go.Proofs.Ytmkhkkfliecfdaa.Mm
