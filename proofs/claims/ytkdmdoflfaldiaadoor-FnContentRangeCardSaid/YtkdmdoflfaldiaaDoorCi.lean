/- strconv.ParseInt laid at this program. -/
import Derived.Test.YtkdmdoflfaldiaaDoorProg
import Derived.Shelf.Strconv.ParseIntPublic10
import Derived.KernelRfl
namespace Go.Proofs.YtkdmdoflfaldiaaDoor.Laid
open Go.Shelf Go.RowKit
set_option maxRecDepth 100000
def L174_ren : Go.Shelf.Ren := ⟨fun | 129 => 33 | 171 => 25 | 174 => 12 | 205 => 10 | 243 => 26 | 245 => 16 | 246 => 27 | 247 => 15 | 279 => 18 | 280 => 19 | 281 => 20 | 282 => 21 | 283 => 28 | 284 => 29 | 285 => 30 | 286 => 31 | 287 => 17 | 316 => 24 | 317 => 32 | 318 => 34 | 319 => 35 | 320 => 36 | 321 => 22 | 322 => 23 | 337 => 37 | 338 => 38 | n => n, fun | 37 => 54 | 46 => 49 | 51 => 69 | 53 => 46 | 75 => 29 | 80 => 78 | 85 => 38 | 127 => 59 | 143 => 40 | 145 => 42 | 167 => 45 | 168 => 50 | 171 => 61 | 173 => 64 | 175 => 47 | 210 => 57 | 212 => 68 | 213 => 70 | 232 => 74 | 233 => 75 | n => n, fun | 15 => 0 | 16 => 1 | 17 => 2 | 18 => 3 | 19 => 4 | n => n⟩
theorem L174 : LaysC.n174 Tryd.prog L174_ren := {
  mixed := by kernel_rfl
  f129 := by kernel_rfl
  f171 := by kernel_rfl
  f174 := by kernel_rfl
  f205 := by kernel_rfl
  f243 := by kernel_rfl
  f245 := by kernel_rfl
  f246 := by kernel_rfl
  f247 := by kernel_rfl
  f279 := by kernel_rfl
  f280 := by kernel_rfl
  f281 := by kernel_rfl
  f282 := by kernel_rfl
  f283 := by kernel_rfl
  f284 := by kernel_rfl
  f285 := by kernel_rfl
  f286 := by kernel_rfl
  f287 := by kernel_rfl
  f316 := by kernel_rfl
  f317 := by kernel_rfl
  f318 := by kernel_rfl
  f319 := by kernel_rfl
  f320 := by kernel_rfl
  f321 := by kernel_rfl
  f322 := by kernel_rfl
  f337 := by kernel_rfl
  f338 := by kernel_rfl
  t0 := by kernel_rfl
  a0 := fun _ => by kernel_rfl
  z0 := fun _ => by kernel_rfl
  v0 := fun _ => by kernel_rfl
  t2 := by kernel_rfl
  a2 := fun _ => by kernel_rfl
  z2 := fun _ => by kernel_rfl
  v2 := fun _ => by kernel_rfl
  t3 := by kernel_rfl
  a3 := fun _ => by kernel_rfl
  z3 := fun _ => by kernel_rfl
  v3 := fun _ => by kernel_rfl
  t4 := by kernel_rfl
  a4 := fun _ => by kernel_rfl
  z4 := fun _ => by kernel_rfl
  v4 := fun _ => by kernel_rfl
  t5 := by kernel_rfl
  a5 := fun _ => by kernel_rfl
  z5 := fun _ => by kernel_rfl
  v5 := fun _ => by kernel_rfl
  t9 := by kernel_rfl
  a9 := fun _ => by kernel_rfl
  z9 := fun _ => by kernel_rfl
  v9 := fun _ => by kernel_rfl
  t20 := by kernel_rfl
  a20 := fun _ => by kernel_rfl
  z20 := fun _ => by kernel_rfl
  v20 := fun _ => by kernel_rfl
  t21 := by kernel_rfl
  a21 := fun _ => by kernel_rfl
  z21 := fun _ => by kernel_rfl
  v21 := fun _ => by kernel_rfl
  t37 := by kernel_rfl
  a37 := fun _ => by kernel_rfl
  z37 := fun _ => by kernel_rfl
  v37 := fun _ => by kernel_rfl
  t46 := by kernel_rfl
  a46 := fun _ => by kernel_rfl
  z46 := fun _ => by kernel_rfl
  v46 := fun _ => by kernel_rfl
  t51 := by kernel_rfl
  a51 := fun _ => by kernel_rfl
  z51 := fun _ => by kernel_rfl
  v51 := fun _ => by kernel_rfl
  t53 := by kernel_rfl
  a53 := fun _ => by kernel_rfl
  z53 := fun _ => by kernel_rfl
  v53 := fun _ => by kernel_rfl
  t75 := by kernel_rfl
  a75 := fun _ => by kernel_rfl
  z75 := fun _ => by kernel_rfl
  v75 := fun _ => by kernel_rfl
  t85 := by kernel_rfl
  a85 := fun _ => by kernel_rfl
  z85 := fun _ => by kernel_rfl
  v85 := fun _ => by kernel_rfl
  t127 := by kernel_rfl
  a127 := fun _ => by kernel_rfl
  z127 := fun _ => by kernel_rfl
  v127 := fun _ => by kernel_rfl
  t143 := by kernel_rfl
  a143 := fun _ => by kernel_rfl
  z143 := fun _ => by kernel_rfl
  v143 := fun _ => by kernel_rfl
  t145 := by kernel_rfl
  a145 := fun _ => by kernel_rfl
  z145 := fun _ => by kernel_rfl
  v145 := fun _ => by kernel_rfl
  t167 := by kernel_rfl
  a167 := fun _ => by kernel_rfl
  z167 := fun _ => by kernel_rfl
  v167 := fun _ => by kernel_rfl
  t168 := by kernel_rfl
  a168 := fun _ => by kernel_rfl
  z168 := fun _ => by kernel_rfl
  v168 := fun _ => by kernel_rfl
  t171 := by kernel_rfl
  a171 := fun _ => by kernel_rfl
  z171 := fun _ => by kernel_rfl
  v171 := fun _ => by kernel_rfl
  t173 := by kernel_rfl
  a173 := fun _ => by kernel_rfl
  z173 := fun _ => by kernel_rfl
  v173 := fun _ => by kernel_rfl
  t175 := by kernel_rfl
  a175 := fun _ => by kernel_rfl
  z175 := fun _ => by kernel_rfl
  v175 := fun _ => by kernel_rfl
  t210 := by kernel_rfl
  a210 := fun _ => by kernel_rfl
  z210 := fun _ => by kernel_rfl
  v210 := fun _ => by kernel_rfl
  t212 := by kernel_rfl
  a212 := fun _ => by kernel_rfl
  z212 := fun _ => by kernel_rfl
  v212 := fun _ => by kernel_rfl
  t213 := by kernel_rfl
  a213 := fun _ => by kernel_rfl
  z213 := fun _ => by kernel_rfl
  t232 := by kernel_rfl
  a232 := fun _ => by kernel_rfl
  z232 := fun _ => by kernel_rfl
  v232 := fun _ => by kernel_rfl
  t233 := by kernel_rfl
  a233 := fun _ => by kernel_rfl
  z233 := fun _ => by kernel_rfl
  v233 := fun _ => by kernel_rfl
  g15 := by kernel_rfl
  g16 := by kernel_rfl
  g17 := by kernel_rfl
  g18 := by kernel_rfl
  g19 := by kernel_rfl
  t80 := by kernel_rfl
  a80 := fun _ => by kernel_rfl
  z80 := fun _ => by kernel_rfl
  v80 := fun _ => by kernel_rfl
  i0 := by kernel_rfl
  i2 := by kernel_rfl
  i3 := by kernel_rfl
  i4 := by kernel_rfl
  i5 := by kernel_rfl
  i9 := by kernel_rfl
  i20 := by kernel_rfl
  i21 := by kernel_rfl
  i37 := by kernel_rfl
  i46 := by kernel_rfl
  i51 := by kernel_rfl
  i53 := by kernel_rfl
  i75 := by kernel_rfl
  i80 := by kernel_rfl
  i85 := by kernel_rfl
  i127 := by kernel_rfl
  i143 := by kernel_rfl
  i145 := by kernel_rfl
  i167 := by kernel_rfl
  i168 := by kernel_rfl
  i171 := by kernel_rfl
  i173 := by kernel_rfl
  i175 := by kernel_rfl
  i210 := by kernel_rfl
  i212 := by kernel_rfl
  i232 := by kernel_rfl
  i233 := by kernel_rfl
  m15 := by kernel_rfl
  m16 := by kernel_rfl
  m17 := by kernel_rfl
  m18 := by kernel_rfl
  m19 := by kernel_rfl
  c0 := by kernel_rfl
  c2 := by kernel_rfl
  c3 := by kernel_rfl
  c4 := by kernel_rfl
  c5 := by kernel_rfl
  c9 := by kernel_rfl
  c20 := by kernel_rfl
  c21 := by kernel_rfl
  c37 := by kernel_rfl
  c46 := by kernel_rfl
  c51 := by kernel_rfl
  c53 := by kernel_rfl
  c75 := by kernel_rfl
  c80 := by kernel_rfl
  c85 := by kernel_rfl
  c127 := by kernel_rfl
  c143 := by kernel_rfl
  c145 := by kernel_rfl
  c167 := by kernel_rfl
  c168 := by kernel_rfl
  c171 := by kernel_rfl
  c173 := by kernel_rfl
  c175 := by kernel_rfl
  c210 := by kernel_rfl
  c212 := by kernel_rfl
  c213 := by kernel_rfl
  c232 := by kernel_rfl
  c233 := by kernel_rfl }
end Go.Proofs.YtkdmdoflfaldiaaDoor.Laid
