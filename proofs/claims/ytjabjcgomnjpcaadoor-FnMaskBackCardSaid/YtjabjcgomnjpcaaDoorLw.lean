/- The condition of the row gives what the walk of FnMaskBack asks. -/
import Derived.Test.YtjabjcgomnjpcaaDoorMc
import Derived.Test.YtjabjcgomnjpcaaDoorLu
import Derived.Test.YtjabjcgomnjpcaaDoorLv
namespace Go.Proofs.YtjabjcgomnjpcaaDoor.Given
open Go.RowKit
theorem bv_of {W : World} {l : List (String × DataW Unit)} (h : laidMet Tryd.prog l W) (h1 : ("strconv.ErrSyntax", (Rows.laid_strconv_ErrSyntax : DataW Unit)) ∈ l) (h2 : ("strconv.ErrRange", (Rows.laid_strconv_ErrRange : DataW Unit)) ∈ l) (h3 : ("strings.asciiSpace", (Rows.laid_strings_asciiSpace : DataW Unit)) ∈ l) (h4 : ("math/bits.deBruijn64tab", (Rows.laid_math_bits_deBruijn64tab : DataW Unit)) ∈ l) : Bv W :=
  ⟨ev_of h h1 h2 h3, dv_of h h4⟩
end Go.Proofs.YtjabjcgomnjpcaaDoor.Given
