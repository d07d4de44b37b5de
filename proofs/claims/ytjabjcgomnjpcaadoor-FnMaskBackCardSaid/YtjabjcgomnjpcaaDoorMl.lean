/- The shelf's functions laid: strings.TrimSpace, strconv.toError. -/
import Derived.Test.YtjabjcgomnjpcaaDoorProg
import Derived.Shelf.Pu.ToError
import Derived.Shelf.Pu.ToErrorRange
import Derived.Shelf.Strings.TrimSpace
namespace Go.Proofs.YtjabjcgomnjpcaaDoor.Laid
open Go.Shelf Go.RowKit
set_option maxRecDepth 100000
def L_n17_ren : Go.Shelf.Ren := ⟨fun | 17 => 36 | 21 => 53 | 22 => 54 | 23 => 55 | 24 => 56 | 25 => 71 | 26 => 23 | 27 => 72 | 28 => 79 | 29 => 80 | 30 => 44 | 31 => 45 | 32 => 46 | 33 => 47 | 34 => 62 | 35 => 63 | 36 => 64 | 37 => 65 | 38 => 66 | 39 => 76 | 40 => 77 | n => n, fun | 22 => 45 | 24 => 39 | 34 => 88 | 36 => 22 | 37 => 54 | 39 => 90 | 44 => 118 | 47 => 71 | 48 => 68 | 50 => 70 | 52 => 79 | 55 => 82 | 59 => 102 | 60 => 84 | 61 => 103 | 65 => 133 | 66 => 134 | 67 => 32 | n => n, fun | 0 => 4 | 1 => 5 | 2 => 3 | 3 => 9 | 4 => 10 | n => n⟩
theorem L_n17 : LaysPu.n17 Tryd.prog L_n17_ren := {
  mixed := by kernel_rfl
  f17 := by kernel_rfl
  f21 := by kernel_rfl
  f22 := by kernel_rfl
  f23 := by kernel_rfl
  f24 := by kernel_rfl
  f25 := by kernel_rfl
  f26 := by kernel_rfl
  f27 := by kernel_rfl
  f28 := by kernel_rfl
  f29 := by kernel_rfl
  f30 := by kernel_rfl
  f31 := by kernel_rfl
  f32 := by kernel_rfl
  f33 := by kernel_rfl
  f34 := by kernel_rfl
  f35 := by kernel_rfl
  f36 := by kernel_rfl
  f37 := by kernel_rfl
  f38 := by kernel_rfl
  f39 := by kernel_rfl
  f40 := by kernel_rfl
  t0 := by kernel_rfl
  a0 := fun _ => by kernel_rfl
  z0 := fun _ => by kernel_rfl
  v0 := fun _ => by kernel_rfl
  i0 := by kernel_rfl
  t2 := by kernel_rfl
  a2 := fun _ => by kernel_rfl
  z2 := fun _ => by kernel_rfl
  v2 := fun _ => by kernel_rfl
  i2 := by kernel_rfl
  t3 := by kernel_rfl
  a3 := fun _ => by kernel_rfl
  z3 := fun _ => by kernel_rfl
  v3 := fun _ => by kernel_rfl
  i3 := by kernel_rfl
  t4 := by kernel_rfl
  a4 := fun _ => by kernel_rfl
  z4 := fun _ => by kernel_rfl
  v4 := fun _ => by kernel_rfl
  i4 := by kernel_rfl
  t5 := by kernel_rfl
  a5 := fun _ => by kernel_rfl
  z5 := fun _ => by kernel_rfl
  v5 := fun _ => by kernel_rfl
  i5 := by kernel_rfl
  t9 := by kernel_rfl
  a9 := fun _ => by kernel_rfl
  z9 := fun _ => by kernel_rfl
  v9 := fun _ => by kernel_rfl
  i9 := by kernel_rfl
  t20 := by kernel_rfl
  a20 := fun _ => by kernel_rfl
  z20 := fun _ => by kernel_rfl
  v20 := fun _ => by kernel_rfl
  i20 := by kernel_rfl
  t22 := by kernel_rfl
  a22 := fun _ => by kernel_rfl
  z22 := fun _ => by kernel_rfl
  v22 := fun _ => by kernel_rfl
  i22 := by kernel_rfl
  t24 := by kernel_rfl
  a24 := fun _ => by kernel_rfl
  z24 := fun _ => by kernel_rfl
  v24 := fun _ => by kernel_rfl
  i24 := by kernel_rfl
  t34 := by kernel_rfl
  a34 := fun _ => by kernel_rfl
  z34 := fun _ => by kernel_rfl
  v34 := fun _ => by kernel_rfl
  i34 := by kernel_rfl
  c34 := by kernel_rfl
  t36 := by kernel_rfl
  a36 := fun _ => by kernel_rfl
  z36 := fun _ => by kernel_rfl
  v36 := fun _ => by kernel_rfl
  i36 := by kernel_rfl
  t37 := by kernel_rfl
  a37 := fun _ => by kernel_rfl
  z37 := fun _ => by kernel_rfl
  v37 := fun _ => by kernel_rfl
  i37 := by kernel_rfl
  t39 := by kernel_rfl
  a39 := fun _ => by kernel_rfl
  z39 := fun _ => by kernel_rfl
  v39 := fun _ => by kernel_rfl
  i39 := by kernel_rfl
  t44 := by kernel_rfl
  a44 := fun _ => by kernel_rfl
  z44 := fun _ => by kernel_rfl
  v44 := fun _ => by kernel_rfl
  i44 := by kernel_rfl
  t47 := by kernel_rfl
  a47 := fun _ => by kernel_rfl
  z47 := fun _ => by kernel_rfl
  v47 := fun _ => by kernel_rfl
  i47 := by kernel_rfl
  t48 := by kernel_rfl
  a48 := fun _ => by kernel_rfl
  z48 := fun _ => by kernel_rfl
  v48 := fun _ => by kernel_rfl
  i48 := by kernel_rfl
  t50 := by kernel_rfl
  a50 := fun _ => by kernel_rfl
  z50 := fun _ => by kernel_rfl
  v50 := fun _ => by kernel_rfl
  i50 := by kernel_rfl
  t52 := by kernel_rfl
  a52 := fun _ => by kernel_rfl
  z52 := fun _ => by kernel_rfl
  v52 := fun _ => by kernel_rfl
  i52 := by kernel_rfl
  t55 := by kernel_rfl
  a55 := fun _ => by kernel_rfl
  z55 := fun _ => by kernel_rfl
  v55 := fun _ => by kernel_rfl
  i55 := by kernel_rfl
  t59 := by kernel_rfl
  a59 := fun _ => by kernel_rfl
  z59 := fun _ => by kernel_rfl
  v59 := fun _ => by kernel_rfl
  i59 := by kernel_rfl
  t60 := by kernel_rfl
  a60 := fun _ => by kernel_rfl
  z60 := fun _ => by kernel_rfl
  v60 := fun _ => by kernel_rfl
  i60 := by kernel_rfl
  t61 := by kernel_rfl
  a61 := fun _ => by kernel_rfl
  z61 := fun _ => by kernel_rfl
  t65 := by kernel_rfl
  a65 := fun _ => by kernel_rfl
  z65 := fun _ => by kernel_rfl
  v65 := fun _ => by kernel_rfl
  i65 := by kernel_rfl
  t66 := by kernel_rfl
  a66 := fun _ => by kernel_rfl
  z66 := fun _ => by kernel_rfl
  v66 := fun _ => by kernel_rfl
  i66 := by kernel_rfl
  t67 := by kernel_rfl
  a67 := fun _ => by kernel_rfl
  z67 := fun _ => by kernel_rfl
  v67 := fun _ => by kernel_rfl
  i67 := by kernel_rfl
  g0 := by kernel_rfl
  m0 := by kernel_rfl
  g1 := by kernel_rfl
  m1 := by kernel_rfl
  g2 := by kernel_rfl
  m2 := by kernel_rfl
  g3 := by kernel_rfl
  m3 := by kernel_rfl
  g4 := by kernel_rfl
  m4 := by kernel_rfl }
def L_n163_ren : Go.Shelf.Ren := ⟨fun | 120 => 78 | 163 => 20 | 197 => 39 | 199 => 33 | 237 => 32 | 238 => 34 | 260 => 59 | 261 => 49 | 271 => 70 | 272 => 48 | 273 => 50 | 311 => 68 | 312 => 69 | 315 => 67 | n => n, fun | 37 => 54 | 40 => 65 | 46 => 22 | 49 => 110 | 51 => 84 | 105 => 72 | 119 => 66 | 138 => 120 | 139 => 121 | 141 => 86 | 193 => 106 | 194 => 107 | 196 => 109 | 198 => 112 | 201 => 115 | 226 => 126 | 227 => 127 | n => n, fun | 3 => 7 | 4 => 8 | 6 => 1 | n => n⟩
theorem L_n163 : Lays.n163 Tryd.prog L_n163_ren := {
  mixed := by kernel_rfl
  f120 := by kernel_rfl
  f163 := by kernel_rfl
  f197 := by kernel_rfl
  f199 := by kernel_rfl
  f237 := by kernel_rfl
  f238 := by kernel_rfl
  f260 := by kernel_rfl
  f261 := by kernel_rfl
  f271 := by kernel_rfl
  f272 := by kernel_rfl
  f273 := by kernel_rfl
  f311 := by kernel_rfl
  f312 := by kernel_rfl
  f315 := by kernel_rfl
  t0 := by kernel_rfl
  a0 := fun _ => by kernel_rfl
  z0 := fun _ => by kernel_rfl
  v0 := fun _ => by kernel_rfl
  t3 := by kernel_rfl
  a3 := fun _ => by kernel_rfl
  z3 := fun _ => by kernel_rfl
  v3 := fun _ => by kernel_rfl
  t4 := by kernel_rfl
  a4 := fun _ => by kernel_rfl
  z4 := fun _ => by kernel_rfl
  v4 := fun _ => by kernel_rfl
  t5 := by kernel_rfl
  a5 := fun _ => by kernel_rfl
  z5 := fun _ => by kernel_rfl
  v5 := fun _ => by kernel_rfl
  t9 := by kernel_rfl
  a9 := fun _ => by kernel_rfl
  z9 := fun _ => by kernel_rfl
  v9 := fun _ => by kernel_rfl
  t21 := by kernel_rfl
  a21 := fun _ => by kernel_rfl
  z21 := fun _ => by kernel_rfl
  v21 := fun _ => by kernel_rfl
  t37 := by kernel_rfl
  a37 := fun _ => by kernel_rfl
  z37 := fun _ => by kernel_rfl
  v37 := fun _ => by kernel_rfl
  t40 := by kernel_rfl
  a40 := fun _ => by kernel_rfl
  z40 := fun _ => by kernel_rfl
  v40 := fun _ => by kernel_rfl
  t46 := by kernel_rfl
  a46 := fun _ => by kernel_rfl
  z46 := fun _ => by kernel_rfl
  v46 := fun _ => by kernel_rfl
  t49 := by kernel_rfl
  a49 := fun _ => by kernel_rfl
  z49 := fun _ => by kernel_rfl
  v49 := fun _ => by kernel_rfl
  t51 := by kernel_rfl
  a51 := fun _ => by kernel_rfl
  z51 := fun _ => by kernel_rfl
  v51 := fun _ => by kernel_rfl
  t105 := by kernel_rfl
  a105 := fun _ => by kernel_rfl
  z105 := fun _ => by kernel_rfl
  v105 := fun _ => by kernel_rfl
  t119 := by kernel_rfl
  a119 := fun _ => by kernel_rfl
  z119 := fun _ => by kernel_rfl
  t138 := by kernel_rfl
  a138 := fun _ => by kernel_rfl
  z138 := fun _ => by kernel_rfl
  v138 := fun _ => by kernel_rfl
  t139 := by kernel_rfl
  a139 := fun _ => by kernel_rfl
  z139 := fun _ => by kernel_rfl
  v139 := fun _ => by kernel_rfl
  t141 := by kernel_rfl
  a141 := fun _ => by kernel_rfl
  z141 := fun _ => by kernel_rfl
  v141 := fun _ => by kernel_rfl
  t193 := by kernel_rfl
  a193 := fun _ => by kernel_rfl
  z193 := fun _ => by kernel_rfl
  v193 := fun _ => by kernel_rfl
  t194 := by kernel_rfl
  a194 := fun _ => by kernel_rfl
  z194 := fun _ => by kernel_rfl
  v194 := fun _ => by kernel_rfl
  t196 := by kernel_rfl
  a196 := fun _ => by kernel_rfl
  z196 := fun _ => by kernel_rfl
  v196 := fun _ => by kernel_rfl
  t198 := by kernel_rfl
  a198 := fun _ => by kernel_rfl
  z198 := fun _ => by kernel_rfl
  v198 := fun _ => by kernel_rfl
  t201 := by kernel_rfl
  a201 := fun _ => by kernel_rfl
  z201 := fun _ => by kernel_rfl
  v201 := fun _ => by kernel_rfl
  t226 := by kernel_rfl
  a226 := fun _ => by kernel_rfl
  z226 := fun _ => by kernel_rfl
  v226 := fun _ => by kernel_rfl
  t227 := by kernel_rfl
  a227 := fun _ => by kernel_rfl
  z227 := fun _ => by kernel_rfl
  v227 := fun _ => by kernel_rfl
  g0 := by kernel_rfl
  g3 := by kernel_rfl
  g4 := by kernel_rfl
  g6 := by kernel_rfl }
theorem X163 : Go.Proofs.Space.Extra Tryd.prog L_n163_ren := ⟨by kernel_rfl⟩
end Go.Proofs.YtjabjcgomnjpcaaDoor.Laid
