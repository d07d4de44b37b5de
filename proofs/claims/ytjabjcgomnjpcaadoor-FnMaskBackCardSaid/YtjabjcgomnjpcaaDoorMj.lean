/- strings.Join and strings.ToUpper laid at this program. -/
import Derived.Test.YtjabjcgomnjpcaaDoorProg
import Derived.Shelf.Strings.OnBuilder
import Derived.KernelRfl
namespace Go.Proofs.YtjabjcgomnjpcaaDoor.Laid
open Go.Shelf Go.RowKit
set_option maxRecDepth 100000
def L_n156_ren : Go.Shelf.Ren := ⟨fun | 156 => 18 | 165 => 24 | 166 => 25 | 169 => 27 | 240 => 37 | 241 => 38 | 276 => 57 | 277 => 58 | n => n, fun | 31 => 37 | 37 => 54 | 70 => 53 | 72 => 56 | 75 => 39 | 76 => 58 | 80 => 32 | 127 => 71 | 164 => 93 | n => n, fun n => n⟩
theorem L_n156 : Lays.n156 Tryd.prog L_n156_ren := {
  mixed := by kernel_rfl
  f156 := by kernel_rfl
  f165 := by kernel_rfl
  f166 := by kernel_rfl
  f169 := by kernel_rfl
  f240 := by kernel_rfl
  f241 := by kernel_rfl
  f276 := by kernel_rfl
  f277 := by kernel_rfl
  t0 := by kernel_rfl
  a0 := fun _ => by kernel_rfl
  z0 := fun _ => by kernel_rfl
  v0 := fun _ => by kernel_rfl
  t3 := by kernel_rfl
  a3 := fun _ => by kernel_rfl
  z3 := fun _ => by kernel_rfl
  v3 := fun _ => by kernel_rfl
  t4 := by kernel_rfl
  a4 := fun _ => by kernel_rfl
  z4 := fun _ => by kernel_rfl
  v4 := fun _ => by kernel_rfl
  t9 := by kernel_rfl
  a9 := fun _ => by kernel_rfl
  z9 := fun _ => by kernel_rfl
  v9 := fun _ => by kernel_rfl
  t20 := by kernel_rfl
  a20 := fun _ => by kernel_rfl
  z20 := fun _ => by kernel_rfl
  v20 := fun _ => by kernel_rfl
  t31 := by kernel_rfl
  a31 := fun _ => by kernel_rfl
  z31 := fun _ => by kernel_rfl
  v31 := fun _ => by kernel_rfl
  t37 := by kernel_rfl
  a37 := fun _ => by kernel_rfl
  z37 := fun _ => by kernel_rfl
  v37 := fun _ => by kernel_rfl
  t70 := by kernel_rfl
  a70 := fun _ => by kernel_rfl
  z70 := fun _ => by kernel_rfl
  v70 := fun _ => by kernel_rfl
  t72 := by kernel_rfl
  a72 := fun _ => by kernel_rfl
  z72 := fun _ => by kernel_rfl
  v72 := fun _ => by kernel_rfl
  t75 := by kernel_rfl
  a75 := fun _ => by kernel_rfl
  z75 := fun _ => by kernel_rfl
  v75 := fun _ => by kernel_rfl
  t76 := by kernel_rfl
  a76 := fun _ => by kernel_rfl
  z76 := fun _ => by kernel_rfl
  v76 := fun _ => by kernel_rfl
  t127 := by kernel_rfl
  a127 := fun _ => by kernel_rfl
  z127 := fun _ => by kernel_rfl
  v127 := fun _ => by kernel_rfl
  t164 := by kernel_rfl
  a164 := fun _ => by kernel_rfl
  z164 := fun _ => by kernel_rfl
  v164 := fun _ => by kernel_rfl }
theorem L_bx : Builder.Extra Tryd.prog L_n156_ren := {
  sizeBuilder := by kernel_rfl
  liesBuilder := by kernel_rfl
  t5 := by kernel_rfl
  a5 := fun _ => by kernel_rfl
  z5 := fun _ => by kernel_rfl
  v5 := fun _ => by kernel_rfl
  infoByte := by kernel_rfl
  cellsByte := by kernel_rfl
  sizeByte := by kernel_rfl
  neB5 := by decide }
def L_n158_ren : Go.Shelf.Ren := ⟨fun | 118 => 40 | 158 => 16 | 165 => 24 | 166 => 25 | 167 => 26 | 168 => 41 | 169 => 27 | 197 => 39 | 203 => 29 | 230 => 28 | 240 => 37 | 241 => 38 | 242 => 60 | 260 => 59 | 262 => 43 | 270 => 42 | 274 => 74 | 275 => 75 | 276 => 57 | 277 => 58 | 278 => 73 | 313 => 61 | n => n, fun | 37 => 54 | 46 => 22 | 51 => 84 | 70 => 53 | 72 => 56 | 75 => 39 | 76 => 58 | 80 => 32 | 105 => 72 | 107 => 62 | 119 => 66 | 127 => 71 | 138 => 120 | 139 => 121 | 160 => 122 | 162 => 99 | 164 => 93 | 203 => 97 | 206 => 130 | 208 => 132 | n => n, fun | 3 => 7 | 4 => 8 | 13 => 2 | n => n⟩
theorem L_n158 : Lays.n158 Tryd.prog L_n158_ren := {
  mixed := by kernel_rfl
  f118 := by kernel_rfl
  f158 := by kernel_rfl
  f165 := by kernel_rfl
  f166 := by kernel_rfl
  f167 := by kernel_rfl
  f168 := by kernel_rfl
  f169 := by kernel_rfl
  f197 := by kernel_rfl
  f203 := by kernel_rfl
  f230 := by kernel_rfl
  f240 := by kernel_rfl
  f241 := by kernel_rfl
  f242 := by kernel_rfl
  f260 := by kernel_rfl
  f262 := by kernel_rfl
  f270 := by kernel_rfl
  f274 := by kernel_rfl
  f275 := by kernel_rfl
  f276 := by kernel_rfl
  f277 := by kernel_rfl
  f278 := by kernel_rfl
  f313 := by kernel_rfl
  t0 := by kernel_rfl
  a0 := fun _ => by kernel_rfl
  z0 := fun _ => by kernel_rfl
  v0 := fun _ => by kernel_rfl
  t3 := by kernel_rfl
  a3 := fun _ => by kernel_rfl
  z3 := fun _ => by kernel_rfl
  v3 := fun _ => by kernel_rfl
  t4 := by kernel_rfl
  a4 := fun _ => by kernel_rfl
  z4 := fun _ => by kernel_rfl
  v4 := fun _ => by kernel_rfl
  t5 := by kernel_rfl
  a5 := fun _ => by kernel_rfl
  z5 := fun _ => by kernel_rfl
  v5 := fun _ => by kernel_rfl
  t9 := by kernel_rfl
  a9 := fun _ => by kernel_rfl
  z9 := fun _ => by kernel_rfl
  v9 := fun _ => by kernel_rfl
  t20 := by kernel_rfl
  a20 := fun _ => by kernel_rfl
  z20 := fun _ => by kernel_rfl
  v20 := fun _ => by kernel_rfl
  t21 := by kernel_rfl
  a21 := fun _ => by kernel_rfl
  z21 := fun _ => by kernel_rfl
  v21 := fun _ => by kernel_rfl
  t37 := by kernel_rfl
  a37 := fun _ => by kernel_rfl
  z37 := fun _ => by kernel_rfl
  v37 := fun _ => by kernel_rfl
  t46 := by kernel_rfl
  a46 := fun _ => by kernel_rfl
  z46 := fun _ => by kernel_rfl
  v46 := fun _ => by kernel_rfl
  t51 := by kernel_rfl
  a51 := fun _ => by kernel_rfl
  z51 := fun _ => by kernel_rfl
  v51 := fun _ => by kernel_rfl
  t70 := by kernel_rfl
  a70 := fun _ => by kernel_rfl
  z70 := fun _ => by kernel_rfl
  v70 := fun _ => by kernel_rfl
  t72 := by kernel_rfl
  a72 := fun _ => by kernel_rfl
  z72 := fun _ => by kernel_rfl
  v72 := fun _ => by kernel_rfl
  t75 := by kernel_rfl
  a75 := fun _ => by kernel_rfl
  z75 := fun _ => by kernel_rfl
  v75 := fun _ => by kernel_rfl
  t76 := by kernel_rfl
  a76 := fun _ => by kernel_rfl
  z76 := fun _ => by kernel_rfl
  v76 := fun _ => by kernel_rfl
  t105 := by kernel_rfl
  a105 := fun _ => by kernel_rfl
  z105 := fun _ => by kernel_rfl
  v105 := fun _ => by kernel_rfl
  t107 := by kernel_rfl
  a107 := fun _ => by kernel_rfl
  z107 := fun _ => by kernel_rfl
  v107 := fun _ => by kernel_rfl
  t119 := by kernel_rfl
  a119 := fun _ => by kernel_rfl
  z119 := fun _ => by kernel_rfl
  t127 := by kernel_rfl
  a127 := fun _ => by kernel_rfl
  z127 := fun _ => by kernel_rfl
  v127 := fun _ => by kernel_rfl
  t138 := by kernel_rfl
  a138 := fun _ => by kernel_rfl
  z138 := fun _ => by kernel_rfl
  v138 := fun _ => by kernel_rfl
  t139 := by kernel_rfl
  a139 := fun _ => by kernel_rfl
  z139 := fun _ => by kernel_rfl
  v139 := fun _ => by kernel_rfl
  t160 := by kernel_rfl
  a160 := fun _ => by kernel_rfl
  z160 := fun _ => by kernel_rfl
  v160 := fun _ => by kernel_rfl
  t162 := by kernel_rfl
  a162 := fun _ => by kernel_rfl
  z162 := fun _ => by kernel_rfl
  v162 := fun _ => by kernel_rfl
  t164 := by kernel_rfl
  a164 := fun _ => by kernel_rfl
  z164 := fun _ => by kernel_rfl
  v164 := fun _ => by kernel_rfl
  t203 := by kernel_rfl
  a203 := fun _ => by kernel_rfl
  z203 := fun _ => by kernel_rfl
  v203 := fun _ => by kernel_rfl
  t206 := by kernel_rfl
  a206 := fun _ => by kernel_rfl
  z206 := fun _ => by kernel_rfl
  v206 := fun _ => by kernel_rfl
  t208 := by kernel_rfl
  a208 := fun _ => by kernel_rfl
  z208 := fun _ => by kernel_rfl
  v208 := fun _ => by kernel_rfl
  g3 := by kernel_rfl
  g4 := by kernel_rfl
  g13 := by kernel_rfl }
theorem L_by : Builder.Extra Tryd.prog L_n158_ren := {
  sizeBuilder := by kernel_rfl
  liesBuilder := by kernel_rfl
  t5 := by kernel_rfl
  a5 := fun _ => by kernel_rfl
  z5 := fun _ => by kernel_rfl
  v5 := fun _ => by kernel_rfl
  infoByte := by kernel_rfl
  cellsByte := by kernel_rfl
  sizeByte := by kernel_rfl
  neB5 := by decide }
theorem upper16 (s : ByteArray) (w : World) (hs : s.size ≤ 140737488355328) (hascii : ∀ (j : Nat) (b : UInt8), s.data.toList[j]? = some b → b.toNat < 128) :
    Calls Tryd.prog 16 #[.string s] w fun e w' => e = .returned (.string ⟨(Lib.toUpperA s.data.toList).toArray⟩) ∧ Below w.heap.size w w' :=
  Any.strings_ToUpper_ascii L_n158 L_by s w hs hascii
/-- strings.Join over a row of texts. -/
theorem join18 (bk o c : Nat) (xs : List ByteArray) (sep : ByteArray) (w : World) (hcells : ∀ (j : Nat) x, xs[j]? = some x → w.cell? ⟨bk, o + j, none⟩ = some (.string x)) (hbk : bk < w.heap.size) (hN : xs.length ≤ 140737488355328) (hcap : xs.length ≤ c)
    (hlen : (Lib.join (xs.map (·.data.toList)) sep.data.toList).length ≤ 140737488355328) :
    Calls Tryd.prog 18 #[.slice (some ⟨bk, o, none⟩) xs.length c, .string sep] w fun e w' => e = .returned (.string ⟨(Lib.join (xs.map (·.data.toList)) sep.data.toList).toArray⟩) ∧ Below w.heap.size w w' :=
  Any.strings_Join L_n156 L_bx bk o c xs sep w hcells hbk hN hcap hlen
end Go.Proofs.YtjabjcgomnjpcaaDoor.Laid
