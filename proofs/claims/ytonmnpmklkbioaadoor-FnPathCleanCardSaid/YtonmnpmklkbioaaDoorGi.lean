/- 4 texts of this claim, one behind the other. -/
import Derived.Test.YtonmnpmklkbioaaDoorGb
import Derived.Lib.ConvBytes
import Derived.Lib.Hide
import Derived.Deep.Quiet
import Derived.Test.YtonmnpmklkbioaaDoorGd
import Derived.Shelf.Pu.ToError
import Derived.Lib.BufferKept
import Derived.Lib.BufferOld
/- ParseUint of two bytes, base 16, 8 bits. -/
namespace Go.Proofs.YtonmnpmklkbioaaDoor.Given
open Go.RowKit Go.Proofs.YtonmnpmklkbioaaDoorW.PrintWords Go.Proofs.YtonmnpmklkbioaaDoorW.PrintLast Go.Proofs.YtonmnpmklkbioaaDoorW.PrintMore Go.Proofs.YtonmnpmklkbioaaDoor.PN
set_option linter.unusedVariables false
set_option linter.unusedSimpArgs false
/-- The value of a hexadecimal digit. -/
def hexB (c : Nat) : Option Nat := if 48 ≤ c ∧ c ≤ 57 then some (c - 48) else if 97 ≤ c ∧ c ≤ 102 then some (c - 87) else if 65 ≤ c ∧ c ≤ 70 then some (c - 55) else none
def two89 (x y : UInt8) : Value := match hexB x.toNat, hexB y.toNat with
  | some a, some b => .tuple #[.int .u64 ((16 * a + b : Nat) : Int), .nilIface]
  | _, _ => .tuple #[.int .u64 0, .iface 114 (.int .i64 2)]
theorem or32 : ∀ n : Fin 256, Go.bits .or .u8 (n.val : Int) 32 = ((n.val ||| 32 : Nat) : Int) := by decide +kernel
theorem hex_low : ∀ n : Fin 256, ¬ (48 ≤ n.val ∧ n.val ≤ 57) → (97 ≤ (n.val ||| 32) ∧ (n.val ||| 32) ≤ 102 → hexB n.val = some ((n.val ||| 32) - 87)) ∧ (¬ (97 ≤ (n.val ||| 32) ∧ (n.val ||| 32) ≤ 102) → hexB n.val = none) ∧ (n.val ||| 32) < 256 := by decide +kernel
theorem hexB_lt {c d : Nat} (h : hexB c = some d) : d < 16 := by
  unfold hexB at h
  split at h
  · cases h; omega
  · split at h
    · cases h; omega
    · split at h
      · cases h; omega
      · cases h
def StP (x y : UInt8) (i : Nat) (v : Nat) : Prop := (i = 0 ∧ v = 0) ∨ (i = 1 ∧ hexB x.toNat = some v) ∨ (i = 2 ∧ ∃ a b, hexB x.toNat = some a ∧ hexB y.toNat = some b ∧ v = 16 * a + b)
theorem lower96 (c : Int) (w : World) : Calls Tryd.prog 96 #[.int .u8 c] w fun e w' => e = .returned (.int .u8 (Go.bits .or .u8 c 32)) ∧ w' = w := by
  go_enter Tryd.func96, Tryd.ntmps96
  go_wp2
  go_ret
  exact ⟨rfl, rfl⟩
set_option maxHeartbeats 4000000 in
set_option maxRecDepth 100000 in
theorem parse89 (x y : UInt8) (w : World) : Calls Tryd.prog 89 #[.string ⟨#[x, y]⟩, .int .i64 16, .int .i64 8] w fun e w' => e = .returned (two89 x y) ∧ Below w.heap.size w w' := by
  have hcv := Lib.run_convert_string_bytes (P := Tryd.prog) w 9 23 5 ⟨#[x, y]⟩ Tryd.underlying9 Tryd.underlying23 Tryd.underlying5
  have k0 : (Lib.bytesWorld w 5 ⟨#[x, y]⟩).cell? ⟨w.heap.size, 0, none⟩ = some (.int .u8 (x.toNat : Int)) := Lib.bytesWorld_cell w 5 ⟨#[x, y]⟩ 0 (show 0 < 2 by omega)
  have k1 : (Lib.bytesWorld w 5 ⟨#[x, y]⟩).cell? ⟨w.heap.size, 1, none⟩ = some (.int .u8 (y.toNat : Int)) := Lib.bytesWorld_cell w 5 ⟨#[x, y]⟩ 1 (show 1 < 2 by omega)
  have hb : Below w.heap.size w (Lib.bytesWorld w 5 ⟨#[x, y]⟩) := ⟨rfl, rfl, rfl, by rw [Lib.bytesWorld_size]; omega, fun k hk => Lib.bytesWorld_at_old w 5 _ k hk⟩
  have hsz : (⟨#[x, y]⟩ : ByteArray).size = 2 := rfl
  obtain ⟨S, hS⟩ : ∃ S, (⟨#[x, y]⟩ : ByteArray) = S := ⟨_, rfl⟩
  have hne : (S.toList == []) = false := by rw [← hS, ByteArray.toList_eq]; rfl
  rw [hS] at hcv k0 k1 hb hsz ⊢
  obtain ⟨W, hW⟩ : ∃ W, Lib.bytesWorld w 5 S = W := ⟨_, rfl⟩
  obtain ⟨g, hg⟩ : ∃ g, grownCap w S.size 0 5 = g := ⟨_, rfl⟩
  rw [hW, hg, hsz] at hcv
  rw [hW] at k0 k1 hb
  obtain ⟨R, hR⟩ : ∃ R, two89 x y = R := ⟨_, rfl⟩
  rw [hR]
  replace hR := Lib.hid hR
  replace hb := Lib.hid hb
  clear hS hW hg hsz
  go_enter Tryd.func89, Tryd.ntmps89
  go_wp2
  go_loopg [12, 13, 101] 2 (fun gf s12 s13 s101 wx => wx = W ∧ s12 = .bool false ∧ ∃ (i : Nat) (a : Int), s101 = .int .i64 (i : Int) ∧ s13 = .int .u64 a ∧ Hid (i ≤ 2 ∧ 2 ≤ i + gf ∧ ∃ v : Nat, a = (v : Int) ∧ StP x y i v))
  case atStart => exact ⟨rfl, rfl, 0, 0, rfl, rfl, Lib.hid ⟨by omega, by omega, 0, rfl, .inl ⟨rfl, rfl⟩⟩⟩
  case round =>
    obtain ⟨hwr, rfl, i, a, rfl, rfl, hst⟩ := hrel
    rw [hwr]
    clear hwr
    by_cases hi2 : i = 2
    · subst hi2
      have hR2 : R = .tuple #[.int .u64 a, .nilIface] := by
        obtain ⟨_, _, v, ha, hs⟩ := hst.out
        rcases hs with h | h | ⟨_, p, q, hp, hq, hv⟩
        · omega
        · omega
        · rw [← hR.out]; unfold two89; rw [hp, hq, ha, hv]
      clear hst hR k0 k1
      go_wp2
      go_ret2
      exact ⟨by rw [hR2]; rfl, hb.out⟩
    · have hst1 := hst.out
      obtain ⟨hi1, hi3, v, hav, hstp⟩ := hst1
      have hi4 : i < 2 := by omega
      obtain ⟨g', rfl⟩ : ∃ g', gk = g' + 1 := ⟨gk - 1, by omega⟩
      obtain ⟨c, hc, kc, hv16, hnx, hno⟩ : ∃ c : Nat, c < 256 ∧ W.cell? ⟨w.heap.size, i, none⟩ = some (.int .u8 (c : Int)) ∧ v < 16 ∧ (∀ d, hexB c = some d → StP x y (i + 1) (16 * v + d)) ∧ (hexB c = none → R = .tuple #[.int .u64 0, .iface 114 (.int .i64 2)]) := by
        rcases hstp with ⟨rfl, rfl⟩ | ⟨rfl, h⟩ | ⟨h, _⟩
        · refine ⟨x.toNat, x.toNat_lt, k0, by omega, fun d hd => .inr (.inl ⟨rfl, by simpa using hd⟩), fun hn => ?_⟩
          rw [← hR.out]; unfold two89; rw [hn]
        · refine ⟨y.toNat, y.toNat_lt, k1, hexB_lt h, fun d hd => .inr (.inr ⟨rfl, v, d, h, hd, rfl⟩), fun hn => ?_⟩
          rw [← hR.out]; unfold two89; rw [hn, h]
        · omega
      clear hst hstp k0 k1 hR
      have hi4z : (i : Int) < 2 := by omega
      have hiz : (0 : Int) ≤ (i : Int) := by omega
      have a0 : 0 ≤ a := by omega
      have a1 : a < 16 := by omega
      by_cases hd : 48 ≤ c ∧ c ≤ 57
      · have hx : hexB c = some (c - 48) := by unfold hexB; rw [if_pos hd]
        have hst2 := Lib.hid (show i + 1 ≤ 2 ∧ 2 ≤ (i + 1) + g' ∧ ∃ v' : Nat, a * 16 + ((c : Int) - 48) = (v' : Int) ∧ StP x y (i + 1) v' from ⟨by omega, by omega, 16 * v + (c - 48), by omega, hnx _ hx⟩)
        obtain ⟨z, hz⟩ : ∃ z : Int, (c : Int) = z := ⟨_, rfl⟩
        have z1 : 48 ≤ z := by omega
        have z2 : z ≤ 57 := by omega
        rw [hz] at kc hst2
        clear hnx hno hd hx hi1 hi3 hi2 hv16 hc hav hz hi4
        go_wp2
        go_roundg g'
        case measure => exact Nat.lt_succ_self _
        case rel => exact ⟨rfl, rfl, i + 1, _, by first | rfl | (congr 1; omega), rfl, hst2⟩
      · obtain ⟨hl1, hl2, hl3⟩ := hex_low ⟨c, hc⟩ hd
        simp only at hl1 hl2 hl3
        obtain ⟨n, hn⟩ : ∃ n : Nat, c ||| 32 = n := ⟨_, rfl⟩
        rw [hn] at hl1 hl2 hl3
        have hor : Go.bits .or .u8 (c : Int) 32 = (n : Int) := by rw [← hn]; exact or32 ⟨c, hc⟩
        obtain ⟨z, hz⟩ : ∃ z : Int, (c : Int) = z := ⟨_, rfl⟩
        obtain ⟨l, hl⟩ : ∃ l : Int, (n : Int) = l := ⟨_, rfl⟩
        have hlow : ∀ w, Calls Tryd.prog 96 #[.int .u8 z] w fun e w' => e = .returned (.int .u8 l) ∧ w' = w := by
          intro w
          have h := lower96 z w
          rw [← hz, hor, hl, hz] at h
          exact h
        have hdz : ¬ (48 ≤ z ∧ z ≤ 57) := by omega
        have l0 : 0 ≤ l := by omega
        have l1 : l ≤ 255 := by omega
        rw [hz] at kc
        have h95 : z = 95 → l = 127 := by
          intro h
          have hc95 : c = 95 := by omega
          rw [hc95] at hn
          rw [← hl, ← hn]
          rfl
        by_cases hh : 97 ≤ n ∧ n ≤ 102
        · have hx := hl1 hh
          have hst2 := Lib.hid (show i + 1 ≤ 2 ∧ 2 ≤ (i + 1) + g' ∧ ∃ v' : Nat, a * 16 + (l - 97 + 10) = (v' : Int) ∧ StP x y (i + 1) v' from ⟨by omega, by omega, 16 * v + (n - 87), by omega, hnx _ hx⟩)
          have l2 : 97 ≤ l := by omega
          have l3 : l ≤ 102 := by omega
          have z5 : ¬ z = 95 := fun h => by have := h95 h; omega
          clear h95 hnx hno hd hx hi1 hi3 hi2 hv16 hc hav hz hl hor hn hl1 hl2 hl3 hh hi4
          go_wp2_with (go_at_call 96; refine (hlow _).mono ?_; rintro e w' ⟨rfl, rfl⟩)
          all_goals
            go_roundg g'
            case measure => exact Nat.lt_succ_self _
            case rel => exact ⟨rfl, rfl, i + 1, _, by first | rfl | (congr 1; omega), rfl, hst2⟩
        · have hR2 := hno (hl2 hh)
          have l2 : ¬ (97 ≤ l ∧ l ≤ 102) := by omega
          clear hnx hno hd hi1 hi3 hi2 hv16 hc hav hz hl hor hn hl1 hl2 hl3 hh hi4
          by_cases z5 : z = 95
          · have h7 := h95 z5
            subst h7
            subst z5
            clear l2 h95 hdz l0 l1
            go_wp2_with (go_at_call 96; refine (hlow _).mono ?_; rintro e w' ⟨rfl, rfl⟩)
            all_goals go_ret2
            all_goals first | exact ⟨by rw [hR2]; rfl, hb.out⟩ | exact ⟨rfl, hb.out⟩
          clear h95
          by_cases h3 : 103 ≤ l ∧ l ≤ 122
          · obtain ⟨h4, h5⟩ := h3
            clear l2
            go_wp2_with (go_at_call 96; refine (hlow _).mono ?_; rintro e w' ⟨rfl, rfl⟩)
            all_goals go_ret2
            all_goals first | exact ⟨by rw [hR2]; rfl, hb.out⟩ | exact ⟨rfl, hb.out⟩
          · have h6 : ¬ (97 ≤ l ∧ l ≤ 122) := by omega
            clear l2 h3
            go_wp2_with (go_at_call 96; refine (hlow _).mono ?_; rintro e w' ⟨rfl, rfl⟩)
            all_goals go_ret2
            all_goals first | exact ⟨by rw [hR2]; rfl, hb.out⟩ | exact ⟨rfl, hb.out⟩
end Go.Proofs.YtonmnpmklkbioaaDoor.Given
/- ParseUint's public face, and appendUnquotedByte: two hexadecimal digits as a byte that is written. -/
namespace Go.Proofs.YtonmnpmklkbioaaDoor.Laid
open Go.Shelf Go.RowKit
set_option maxRecDepth 100000
def L_n17_ren : Go.Shelf.Ren := ⟨fun | 17 => 90 | 21 => 98 | 22 => 99 | 23 => 100 | 24 => 101 | 25 => 104 | 26 => 105 | 27 => 106 | 28 => 109 | 29 => 110 | 30 => 111 | 31 => 112 | 32 => 113 | 33 => 114 | 34 => 115 | 35 => 116 | 36 => 117 | 37 => 118 | 38 => 119 | 39 => 120 | 40 => 121 | n => n, fun | 22 => 96 | 24 => 74 | 34 => 114 | 36 => 22 | 37 => 23 | 39 => 117 | 44 => 122 | 47 => 120 | 48 => 128 | 50 => 130 | 52 => 132 | 55 => 135 | 59 => 138 | 60 => 90 | 61 => 139 | 65 => 143 | 66 => 144 | 67 => 80 | n => n, fun | 0 => 3 | 1 => 4 | 2 => 6 | 3 => 7 | 4 => 8 | n => n⟩
theorem L_n17 : LaysPu.n17 Tryd.prog L_n17_ren := {
  mixed := by kernel_rfl
  f17 := by kernel_rfl
  f21 := by kernel_rfl
  f22 := by kernel_rfl
  f23 := by kernel_rfl
  f24 := by kernel_rfl
  f25 := by kernel_rfl
  f26 := by kernel_rfl
  f27 := by kernel_rfl
  f28 := by kernel_rfl
  f29 := by kernel_rfl
  f30 := by kernel_rfl
  f31 := by kernel_rfl
  f32 := by kernel_rfl
  f33 := by kernel_rfl
  f34 := by kernel_rfl
  f35 := by kernel_rfl
  f36 := by kernel_rfl
  f37 := by kernel_rfl
  f38 := by kernel_rfl
  f39 := by kernel_rfl
  f40 := by kernel_rfl
  t0 := by kernel_rfl
  a0 := fun _ => by kernel_rfl
  z0 := fun _ => by kernel_rfl
  v0 := fun _ => by kernel_rfl
  i0 := by kernel_rfl
  t2 := by kernel_rfl
  a2 := fun _ => by kernel_rfl
  z2 := fun _ => by kernel_rfl
  v2 := fun _ => by kernel_rfl
  i2 := by kernel_rfl
  t3 := by kernel_rfl
  a3 := fun _ => by kernel_rfl
  z3 := fun _ => by kernel_rfl
  v3 := fun _ => by kernel_rfl
  i3 := by kernel_rfl
  t4 := by kernel_rfl
  a4 := fun _ => by kernel_rfl
  z4 := fun _ => by kernel_rfl
  v4 := fun _ => by kernel_rfl
  i4 := by kernel_rfl
  t5 := by kernel_rfl
  a5 := fun _ => by kernel_rfl
  z5 := fun _ => by kernel_rfl
  v5 := fun _ => by kernel_rfl
  i5 := by kernel_rfl
  t9 := by kernel_rfl
  a9 := fun _ => by kernel_rfl
  z9 := fun _ => by kernel_rfl
  v9 := fun _ => by kernel_rfl
  i9 := by kernel_rfl
  t20 := by kernel_rfl
  a20 := fun _ => by kernel_rfl
  z20 := fun _ => by kernel_rfl
  v20 := fun _ => by kernel_rfl
  i20 := by kernel_rfl
  t22 := by kernel_rfl
  a22 := fun _ => by kernel_rfl
  z22 := fun _ => by kernel_rfl
  v22 := fun _ => by kernel_rfl
  i22 := by kernel_rfl
  t24 := by kernel_rfl
  a24 := fun _ => by kernel_rfl
  z24 := fun _ => by kernel_rfl
  v24 := fun _ => by kernel_rfl
  i24 := by kernel_rfl
  t34 := by kernel_rfl
  a34 := fun _ => by kernel_rfl
  z34 := fun _ => by kernel_rfl
  v34 := fun _ => by kernel_rfl
  i34 := by kernel_rfl
  c34 := by kernel_rfl
  t36 := by kernel_rfl
  a36 := fun _ => by kernel_rfl
  z36 := fun _ => by kernel_rfl
  v36 := fun _ => by kernel_rfl
  i36 := by kernel_rfl
  t37 := by kernel_rfl
  a37 := fun _ => by kernel_rfl
  z37 := fun _ => by kernel_rfl
  v37 := fun _ => by kernel_rfl
  i37 := by kernel_rfl
  t39 := by kernel_rfl
  a39 := fun _ => by kernel_rfl
  z39 := fun _ => by kernel_rfl
  v39 := fun _ => by kernel_rfl
  i39 := by kernel_rfl
  t44 := by kernel_rfl
  a44 := fun _ => by kernel_rfl
  z44 := fun _ => by kernel_rfl
  v44 := fun _ => by kernel_rfl
  i44 := by kernel_rfl
  t47 := by kernel_rfl
  a47 := fun _ => by kernel_rfl
  z47 := fun _ => by kernel_rfl
  v47 := fun _ => by kernel_rfl
  i47 := by kernel_rfl
  t48 := by kernel_rfl
  a48 := fun _ => by kernel_rfl
  z48 := fun _ => by kernel_rfl
  v48 := fun _ => by kernel_rfl
  i48 := by kernel_rfl
  t50 := by kernel_rfl
  a50 := fun _ => by kernel_rfl
  z50 := fun _ => by kernel_rfl
  v50 := fun _ => by kernel_rfl
  i50 := by kernel_rfl
  t52 := by kernel_rfl
  a52 := fun _ => by kernel_rfl
  z52 := fun _ => by kernel_rfl
  v52 := fun _ => by kernel_rfl
  i52 := by kernel_rfl
  t55 := by kernel_rfl
  a55 := fun _ => by kernel_rfl
  z55 := fun _ => by kernel_rfl
  v55 := fun _ => by kernel_rfl
  i55 := by kernel_rfl
  t59 := by kernel_rfl
  a59 := fun _ => by kernel_rfl
  z59 := fun _ => by kernel_rfl
  v59 := fun _ => by kernel_rfl
  i59 := by kernel_rfl
  t60 := by kernel_rfl
  a60 := fun _ => by kernel_rfl
  z60 := fun _ => by kernel_rfl
  v60 := fun _ => by kernel_rfl
  i60 := by kernel_rfl
  t61 := by kernel_rfl
  a61 := fun _ => by kernel_rfl
  z61 := fun _ => by kernel_rfl
  t65 := by kernel_rfl
  a65 := fun _ => by kernel_rfl
  z65 := fun _ => by kernel_rfl
  v65 := fun _ => by kernel_rfl
  i65 := by kernel_rfl
  t66 := by kernel_rfl
  a66 := fun _ => by kernel_rfl
  z66 := fun _ => by kernel_rfl
  v66 := fun _ => by kernel_rfl
  i66 := by kernel_rfl
  t67 := by kernel_rfl
  a67 := fun _ => by kernel_rfl
  z67 := fun _ => by kernel_rfl
  v67 := fun _ => by kernel_rfl
  i67 := by kernel_rfl
  g0 := by kernel_rfl
  m0 := by kernel_rfl
  g1 := by kernel_rfl
  m1 := by kernel_rfl
  g2 := by kernel_rfl
  m2 := by kernel_rfl
  g3 := by kernel_rfl
  m3 := by kernel_rfl
  g4 := by kernel_rfl
  m4 := by kernel_rfl }
end Go.Proofs.YtonmnpmklkbioaaDoor.Laid
namespace Go.Proofs.YtonmnpmklkbioaaDoor.Sy
open Go.RowKit Go.Proofs.YtonmnpmklkbioaaDoorW.PrintWords Go.Proofs.YtonmnpmklkbioaaDoorW.PrintLast Go.Proofs.YtonmnpmklkbioaaDoorW.PrintMore Go.Proofs.YtonmnpmklkbioaaDoor.Given
set_option linter.unusedVariables false
set_option linter.unusedSimpArgs false
/-- The variable of the error that is told. -/
def ErrOk (w : World) : Prop := ∃ ev, w.cell? ⟨3, 0, none⟩ = some ev ∧ (ev = .nilIface ∨ ∃ te pe, ev = .iface te pe)
theorem ErrOk.below {w0 w : World} (h : ErrOk w0) (hb : Below w0.heap.size w0 w) : ErrOk w := by
  obtain ⟨ev, h1, h2⟩ := h
  exact ⟨ev, (hb.cell (World.block_lt_of_cell? w0 _ h1)).trans h1, h2⟩
/-- The byte that two hexadecimal digits mean. -/
def hex2 (x y : UInt8) : Option UInt8 := match hexB x.toNat, hexB y.toNat with
  | some a, some b => some (UInt8.ofNat (16 * a + b))
  | _, _ => none
theorem parse82 (x y : UInt8) (w : World) (hes : ErrOk w) : Calls Tryd.prog 82 #[.string ⟨#[x, y]⟩, .int .i64 16, .int .i64 8] w fun e w' => (∃ v : Int, ∃ er : Value, e = .returned (.tuple #[.int .u64 v, er]) ∧ (∀ c, hex2 x y = some c → v = (c.toNat : Int) ∧ er = .nilIface) ∧ (hex2 x y = none → ∃ N, er = .iface 117 (.pointer (some ⟨N, 0, none⟩)))) ∧ Below w.heap.size w w' := by
  have h89 := parse89 x y w
  have hsz : (⟨#[x, y]⟩ : ByteArray).size = 2 := rfl
  obtain ⟨S, hS⟩ : ∃ S, (⟨#[x, y]⟩ : ByteArray) = S := ⟨_, rfl⟩
  rw [hS] at h89 hsz ⊢
  cases hx : hex2 x y with
  | some c =>
    have h2 : two89 x y = .tuple #[.int .u64 (c.toNat : Int), .nilIface] := by
      unfold hex2 at hx
      unfold two89
      split at hx
      · rename_i a b ha hb
        try rw [ha, hb]
        cases hx
        have := hexB_lt ha
        have := hexB_lt hb
        simp only [UInt8.toNat_ofNat']
        rw [Nat.mod_eq_of_lt (by omega)]
      · cases hx
    rw [h2] at h89
    clear h2 hx hS
    go_enter Tryd.func82, Tryd.ntmps82
    go_wp2_with (go_at_call 89; refine h89.mono ?_; rintro e w1 ⟨rfl, hb⟩)
    go_ret2
    exact ⟨⟨_, _, rfl, fun c' h => by cases h; exact ⟨rfl, rfl⟩, fun h => by cases h⟩, hb⟩
  | none =>
    have h2 : two89 x y = .tuple #[.int .u64 0, .iface 114 (.int .i64 2)] := by
      unfold hex2 at hx
      unfold two89
      split at hx
      · cases hx
      · rename_i h
        first
          | rfl
          | (split
             · rename_i a b ha hb; exact absurd hb (h a b ha)
             · rfl)
    rw [h2] at h89
    have h90 : ∀ w1, Below w.heap.size w w1 → Calls Tryd.prog 90 #[.string ⟨#[80, 97, 114, 115, 101, 85, 105, 110, 116]⟩, .string S, .int .i64 16, .int .i64 8, .iface 114 (.int .i64 2)] w1 fun e w' => ∃ N, e = .returned (.iface 117 (.pointer (some ⟨N, 0, none⟩))) ∧ Below w.heap.size w w' := by
      intro w1 hb
      obtain ⟨ev, e1, e2⟩ := hes.below hb
      refine (AnyPu.strconv_toError_syntax Laid.L_n17 _ S 16 8 ev w1 (by omega) e1 e2).mono ?_
      rintro e w' ⟨N, rfl, _, _, h⟩
      exact ⟨N, rfl, hb.trans (h.mono hb.size)⟩
    clear h2 hx hS
    go_enter Tryd.func82, Tryd.ntmps82
    go_wp2_with (first | (go_at_call 89; refine h89.mono ?_; rintro e w1 ⟨rfl, hb⟩) | (go_at_call 90; refine (h90 _ hb).mono ?_; rintro e w2 ⟨N, rfl, hb2⟩))
    go_ret2
    refine ⟨⟨_, _, rfl, ?_, ?_⟩, hb2⟩
    · intro c' h; cases h
    · intro _; exact ⟨N, rfl⟩
/-- The byte at the beginning of a text that is written in two hexadecimal digits. -/
def unqB (S : ByteArray) : Option UInt8 := if S.size < 2 then none else hex2 (S.get! 0) (S.get! 1)
theorem two_of {S : ByteArray} (h : 2 ≤ S.size) : S.extract 0 2 = ⟨#[S.get! 0, S.get! 1]⟩ := by
  have e0 : S.get! 0 = S.data[0]'(by have : S.data.size = S.size := rfl; omega) := getElem!_pos S.data 0 _
  have e1 : S.get! 1 = S.data[1]'(by have : S.data.size = S.size := rfl; omega) := getElem!_pos S.data 1 _
  have hd : S.data.size = S.size := rfl
  apply ByteArray.ext
  rw [ByteArray.data_extract, e0, e1]
  apply Array.ext
  · simp; omega
  · intro i h1 h2
    simp only [List.size_toArray, List.length_cons, List.length_nil] at h2
    rw [Array.getElem_extract]
    match i, h2 with
    | 0, _ => rfl
    | 1, _ => rfl
set_option maxHeartbeats 4000000 in
set_option maxRecDepth 100000 in
theorem unquoted69 (B b : Nat) (bs : List Value) (S : ByteArray) (w : World) (hI : Lib.IsBuffer 71 5 B b bs w) (hBw : B ≤ w.heap.size) (h1 : ∀ v ∈ bs, v.oneCell' = true) (hlim : bs.length + 5 ≤ 140737488355328) (hS : S.size ≤ 140737488351232) (hes : ErrOk w) :
    Calls Tryd.prog 69 #[.iface 79 (.pointer (some ⟨b, 0, none⟩)), .string S] w fun e w' => e = .returned (.bool (unqB S).isSome) ∧ Lib.IsBuffer 71 5 B b (bs ++ Lib.byteCells (unqB S).toList) w' ∧ Below B w w' ∧ Lib.OthersKept 5 (some b) w w' := by
  have hm := m79
  have hna := na79
  by_cases h2 : S.size < 2
  · have hu : unqB S = none := by unfold unqB; rw [if_pos h2]
    have hend := Lib.hid (And.intro hI (And.intro (Below.refl B w) (Lib.OthersKept.refl 5 (some b) w)))
    rw [hu]
    clear hI hes hlim h1 hu
    go_enter Tryd.func69, Tryd.ntmps69
    go_wp2
    go_ret
    exact ⟨rfl, by rw [show Lib.byteCells (none : Option UInt8).toList = [] from rfl, List.append_nil]; exact hend.out.1, hend.out.2.1, hend.out.2.2⟩
  · have h2' : 2 ≤ S.size := by omega
    have hu : unqB S = hex2 (S.get! 0) (S.get! 1) := by unfold unqB; rw [if_neg h2]
    have hp := parse82 (S.get! 0) (S.get! 1) w hes
    rw [← two_of h2'] at hp
    rw [← hu] at hp
    obtain ⟨T, hT⟩ : ∃ T, S.extract 0 2 = T := ⟨_, rfl⟩
    rw [hT] at hp
    have h2z : ¬ ((S.size : Int) < 2) := by omega
    have h2y : (2 : Int) ≤ (S.size : Int) := by omega
    cases hc : unqB S with
    | none =>
      rw [hc] at hp
      clear hu h2
      have hIh := Lib.hid hI
      clear hI
      go_enter Tryd.func69, Tryd.ntmps69
      go_wp2_with (go_at_call 82; refine hp.mono ?_; rintro e w1 ⟨⟨v, er, rfl, _, hn⟩, hb⟩; obtain ⟨N, rfl⟩ := hn rfl)
      go_ret
      exact ⟨rfl, by rw [show Lib.byteCells (none : Option UInt8).toList = [] from rfl, List.append_nil]; exact Lib.IsBuffer.old hIh.out hb, (Below.refl B w).trans (hb.mono hBw), (Lib.OthersKept.refl 5 (some b) w).below hb⟩
    | some c =>
      rw [hc] at hp
      clear hu h2
      have hcv : IntKind.u8.wrap (c.toNat : Int) = (c.toNat : Int) := by
        have := c.toNat_lt
        unfold IntKind.wrap; simp [IntKind.bits, IntKind.signed]; omega
      have h138 : ∀ w1, Below w.heap.size w w1 → Calls Tryd.prog 138 #[.pointer (some ⟨b, 0, none⟩), .slice (some ⟨w1.heap.size, 0, none⟩) 1 1] (w1.alloc (.cells #[.int .u8 (c.toNat : Int)] 5)) fun e w' => e = .returned (.tuple #[.int .i64 1, .nilIface]) ∧ Lib.IsBuffer 71 5 B b (bs ++ Lib.byteCells [c]) w' ∧ Below B w w' ∧ Lib.OthersKept 5 (some b) w w' := by
        intro w1 hb
        have hI1 := Lib.IsBuffer.old hI hb
        have hB1 : B ≤ w1.heap.size := Nat.le_trans hBw hb.size
        have hcell : ∀ j v, (Lib.byteCells [c])[j]? = some v → (w1.alloc (.cells #[.int .u8 (c.toNat : Int)] 5)).cell? ((⟨w1.heap.size, 0, none⟩ : Addr).add j) = some v := by
          intro j v hj
          have hnew : (w1.alloc (.cells #[.int .u8 (c.toNat : Int)] 5)).heap[w1.heap.size]? = some (.cells #[.int .u8 (c.toNat : Int)] 5 (0, 0)) := heap_alloc_new w1 _
          rw [Lib.addr_add, Nat.zero_add, Lib.cell_of_heap hnew]
          cases j with
          | zero => cases hj; rfl
          | succ j => simp [Lib.byteCells] at hj
        refine (Any.Buffer_Write_any Laid.L_n180 B b bs (Lib.byteCells [c]) ⟨w1.heap.size, 0, none⟩ 1 1 _ (hI1.alloc _) (by simp; omega) h1 (by simp [Lib.byteCells]) (Nat.ne_of_gt hI1.lt) hcell (Lib.byteCells_one _) (by omega)).mono ?_
        rintro e w' ⟨he, h2, h3, h4⟩
        exact ⟨he, h2, ((Below.refl B w).trans (hb.mono hBw)).trans (((Below.refl B w1).alloc hB1 _).trans h3), (((Lib.OthersKept.refl 5 (some b) w).below hb).alloc _).trans h4⟩
      obtain ⟨bs2, hbs2⟩ : ∃ x, bs ++ Lib.byteCells [c] = x := ⟨_, rfl⟩
      rw [show Lib.byteCells (some c).toList = Lib.byteCells [c] from rfl]
      rw [hbs2] at h138 ⊢
      clear hI h1 hes hbs2
      go_enter Tryd.func69, Tryd.ntmps69
      go_wp2_with (first | (go_at_call 82; refine hp.mono ?_; rintro e w1 ⟨⟨v, er, rfl, hv, _⟩, hb⟩; obtain ⟨rfl, rfl⟩ := hv c rfl) | (go_at_call 138; refine (h138 _ hb).mono ?_; rintro e w2 ⟨rfl, h5, h6, h7⟩; have h8 := Lib.hid (And.intro h5 (And.intro h6 h7)); clear h5 h6 h7))
      go_ret
      exact ⟨rfl, h8.out⟩
end Go.Proofs.YtonmnpmklkbioaaDoor.Sy
/- Grow of a fresh buffer by any number, nought too. -/
namespace Go.Proofs.YtonmnpmklkbioaaDoor.Sy
open Go.RowKit Go.Proofs.YtonmnpmklkbioaaDoorW.PrintWords
set_option linter.unusedVariables false
set_option linter.unusedSimpArgs false
theorem set_same {b : Nat} {w : World} (hb : w.heap[b]? = some (.cells #[.slice none 0 0, .int .i64 0, .int .i8 0] 71 (0, 0))) : (w.setCell ⟨b, 0, none⟩ (.slice none 0 0)).heap[b]? = some (.cells #[.slice none 0 0, .int .i64 0, .int .i8 0] 71 (0, 0)) :=
  Lib.heap_setCell_same (i := 0) hb _
set_option maxHeartbeats 2000000 in
set_option maxRecDepth 100000 in
theorem try79 (B b : Nat) (w : World) (hB : B ≤ b) (hb : w.heap[b]? = some (.cells #[.slice none 0 0, .int .i64 0, .int .i8 0] 71 (0, 0))) :
    Calls Tryd.prog 79 #[.pointer (some ⟨b, 0, none⟩), .int .i64 0] w fun e w' => e = .returned (.tuple #[.int .i64 0, .bool true]) ∧ w'.heap[b]? = some (.cells #[.slice none 0 0, .int .i64 0, .int .i8 0] 71 (0, 0)) ∧ Below B w w' := by
  have c0 : w.cell? ⟨b, 0, none⟩ = some (.slice none 0 0) := by rw [Lib.cell_of_heap hb]; rfl
  have f0 : w.frozen? ⟨b, 0, none⟩ = false := Lib.frozen_of_heap hb 0
  go_enter Tryd.func79, Tryd.ntmps79
  go_wp2
  go_ret2
  exact ⟨rfl, set_same hb, (Below.refl B w).setCell (p := ⟨b, 0, none⟩) hB _⟩
set_option maxHeartbeats 2000000 in
set_option maxRecDepth 100000 in
theorem len85 (b : Nat) (w : World) (hb : w.heap[b]? = some (.cells #[.slice none 0 0, .int .i64 0, .int .i8 0] 71 (0, 0))) :
    Calls Tryd.prog 85 #[.pointer (some ⟨b, 0, none⟩)] w fun e w' => e = .returned (.int .i64 0) ∧ ∃ n, w' = w.drewN n := by
  have hI : Lib.IsBuffer 71 5 0 b [] w := ⟨Nat.zero_le _, .slice none 0 0, 0, hb, World.ownsRow_nil _ _ _ _, by simp [Value.ownBlock]⟩
  exact Any.Buffer_Len ({ Laid.L_n252 with } : LaysM.n181 Tryd.prog Laid.L_n252_ren) 0 b [] w hI
set_option maxHeartbeats 2000000 in
set_option maxRecDepth 100000 in
theorem grow78 (B b : Nat) (w : World) (hB : B ≤ b) (hb : w.heap[b]? = some (.cells #[.slice none 0 0, .int .i64 0, .int .i8 0] 71 (0, 0))) :
    Calls Tryd.prog 78 #[.pointer (some ⟨b, 0, none⟩), .int .i64 0] w fun e w' => e = .returned (.int .i64 0) ∧ w'.heap[b]? = some (.cells #[.slice none 0 0, .int .i64 0, .int .i8 0] 71 (0, 0)) ∧ Below B w w' := by
  have c1 : ∀ n, (w.drewN n).cell? ⟨b, 1, none⟩ = some (.int .i64 0) := fun n => by
    have h : (w.drewN n).cell? ⟨b, 1, none⟩ = w.cell? ⟨b, 1, none⟩ := rfl
    rw [h, Lib.cell_of_heap hb]; rfl
  have h85 := len85 b w hb
  have h79 : ∀ n, Calls Tryd.prog 79 #[.pointer (some ⟨b, 0, none⟩), .int .i64 0] (w.drewN n) fun e w' => e = .returned (.tuple #[.int .i64 0, .bool true]) ∧ w'.heap[b]? = some (.cells #[.slice none 0 0, .int .i64 0, .int .i8 0] 71 (0, 0)) ∧ Below B w w' := by
    intro n
    refine (try79 B b (w.drewN n) hB hb).mono ?_
    rintro e w' ⟨h1, h2, h3⟩
    exact ⟨h1, h2, (below_drewN (Below.refl B w) n).trans h3⟩
  clear hb
  go_enter Tryd.func78, Tryd.ntmps78
  go_wp2_with (first | (go_at_call 85; refine h85.mono ?_; rintro e w1 ⟨rfl, n, rfl⟩; have c1n := c1 n) | (go_at_call 79; refine (h79 _).mono ?_; rintro e w2 ⟨rfl, h2, h3⟩))
  go_ret
  exact ⟨rfl, h2, h3⟩
set_option maxHeartbeats 2000000 in
set_option maxRecDepth 100000 in
theorem grow61z (B b : Nat) (w : World) (hB : B ≤ b) (hb : w.heap[b]? = some (.cells #[.slice none 0 0, .int .i64 0, .int .i8 0] 71 (0, 0))) :
    Calls Tryd.prog 61 #[.pointer (some ⟨b, 0, none⟩), .int .i64 0] w fun e w' => e = .returned (.tuple #[]) ∧ Lib.IsBuffer 71 5 B b [] w' ∧ Below B w w' := by
  have h78 : Calls Tryd.prog 78 #[.pointer (some ⟨b, 0, none⟩), .int .i64 0] w fun e w' => e = .returned (.int .i64 0) ∧ w'.cell? ⟨b, 0, none⟩ = some (.slice none 0 0) ∧ w'.frozen? ⟨b, 0, none⟩ = false ∧ Hid (w'.heap[b]? = some (.cells #[.slice none 0 0, .int .i64 0, .int .i8 0] 71 (0, 0)) ∧ Below B w w') := by
    refine (grow78 B b w hB hb).mono ?_
    rintro e w' ⟨h1, h2, h3⟩
    exact ⟨h1, by rw [Lib.cell_of_heap h2]; rfl, Lib.frozen_of_heap h2 0, Lib.hid ⟨h2, h3⟩⟩
  clear hb
  go_enter Tryd.func61, Tryd.ntmps61
  go_wp2_with (go_at_call 78; refine h78.mono ?_; rintro e w1 ⟨rfl, c0, f0, hh⟩)
  go_end0
  refine ⟨rfl, ⟨hB, .slice none 0 0, 0, set_same hh.out.1, World.ownsRow_nil _ _ _ _, by simp [Value.ownBlock]⟩, hh.out.2.trans ((Below.refl B w1).setCell (p := ⟨b, 0, none⟩) hB _)⟩
theorem grow61n (B b n : Nat) (w : World) (hB : B ≤ b) (hBw : B ≤ w.heap.size) (hb : w.heap[b]? = some (.cells #[.slice none 0 0, .int .i64 0, .int .i8 0] 71 (0, 0))) (hn : n ≤ 140737488355328) :
    Calls Tryd.prog 61 #[.pointer (some ⟨b, 0, none⟩), .int .i64 n] w fun e w' => e = .returned (.tuple #[]) ∧ Lib.IsBuffer 71 5 B b [] w' ∧ Below B w w' := by
  by_cases h0 : n = 0
  · subst h0; exact grow61z B b w hB hb
  · exact grow61 B b n w hB hBw hb (Nat.pos_of_ne_zero h0) hn
end Go.Proofs.YtonmnpmklkbioaaDoor.Sy
/- The alphabet of the buffer's statements (Decode), and that its rules are sound. -/
namespace Go.Proofs.YtonmnpmklkbioaaDoor.Sy
open Go.RowKit Go.Proofs.YtonmnpmklkbioaaDoorW.PrintWords
set_option linter.unusedVariables false
set_option linter.unusedSimpArgs false
inductive Ae where
  | mptr | mask | buf | ifc | itp
  | re (x : RE)
  | has (b : Int)
  | cmp (o : Cm) (c : Int)
  | str (s : Sb)
  | len (s : Sb)
  | idx
  | pos | posw | tail | dtup | drune | dwid | nxt
  | uq | ff | unq
  | wres (x : RE)
  | sres (s : Sb)
  deriving DecidableEq
/-- What is done to the buffer: it grows; a rune, a string, a byte in quotes is written. -/
inductive Eg where
  | gr
  | rn (x : RE)
  | st (s : Sb)
  | ub
/-- What is known ahead. -/
structure Fe where
  neg : Bool
  fresh : Bool
structure Ce where
  mp : Addr
  m : Int
  b : Nat
  it : Nat
  r : Int
  K : ByteArray
  P : ByteArray
  U : ByteArray
  S : ByteArray
  ix : Int
  pos : Nat
  uq : Bool
  fl : Fe
def Ce.d (x : Ce) : Nat × Nat := Lib.decodeGo (x.S.extract x.pos x.S.size)
def Ce.str (x : Ce) : Sb → ByteArray
  | .K => x.K
  | .P => x.P
  | .U => x.U
  | .S => x.S
  | .klo => x.K.extract 0 x.ix.toNat
  | .khi => x.K.extract x.ix.toNat x.K.size
  | .subw => x.S.extract x.pos (x.pos + x.d.2)
def Ce.B (x : Ce) : Ae → Bool
  | .has b => hasB x.m b
  | .cmp o c => o.on x.r c
  | .uq => x.uq
  | .unq => (unqB (x.S.extract x.pos x.S.size)).isSome
  | _ => false
def Ce.V (x : Ce) : Ae → Value
  | .mptr => .pointer (some x.mp)
  | .mask => .int .u64 x.m
  | .buf => .pointer (some ⟨x.b, 0, none⟩)
  | .ifc => .iface 79 (.pointer (some ⟨x.b, 0, none⟩))
  | .itp => .pointer (some ⟨x.it, 0, none⟩)
  | .re y => .int .i32 (y.int x.r)
  | .has b => .bool (hasB x.m b)
  | .cmp o c => .bool (o.on x.r c)
  | .str s => .string (x.str s)
  | .len s => .int .i64 ((x.str s).size : Int)
  | .idx => .int .i64 x.ix
  | .pos => .int .i64 (x.pos : Int)
  | .posw => .int .i64 ((x.pos + x.d.2 : Nat) : Int)
  | .tail => .string (x.S.extract x.pos x.S.size)
  | .dtup => .tuple #[.int .i32 (x.d.1 : Int), .int .i64 (x.d.2 : Int)]
  | .drune => .int .i32 (x.d.1 : Int)
  | .dwid => .int .i64 (x.d.2 : Int)
  | .uq => .bool x.uq
  | .ff => .bool false
  | .unq => .bool (unqB (x.S.extract x.pos x.S.size)).isSome
  | .nxt => .tuple #[.bool true, .int .i64 (x.pos : Int), .int .i32 x.r]
  | .wres y => .tuple #[.int .i64 ((Lib.runeCells (y.int x.r)).length : Int), .nilIface]
  | .sres s => .tuple #[.int .i64 ((x.str s).size : Int), .nilIface]
def isBe : Ae → Bool
  | .has _ => true
  | .cmp _ _ => true
  | .uq => true
  | .ff => true
  | .unq => true
  | _ => false
def reOfe : E Ae → Option RE
  | .atom (.re x) => some x
  | .lit (.int .i32 c) => some (.cst c)
  | _ => none
abbrev T4 := Option (E Ae)
def eSlice (f : Fe) (lo hi mx : Option Operand) (es : List (E Ae)) : T4 :=
  match lo, hi, mx with
  | some _, none, none => (match es with
    | [.atom (.str .K), .atom .idx] => bif f.neg then none else some (.atom (.str .khi))
    | [.atom (.str .S), .atom .pos] => some (.atom .tail)
    | _ => none)
  | none, some _, none => (match es with
    | [.atom (.str .K), .atom .idx] => bif f.neg then none else some (.atom (.str .klo))
    | _ => none)
  | some _, some _, none => (match es with
    | [.atom (.str .S), .atom .pos, .atom .posw] => some (.atom (.str .subw))
    | _ => none)
  | _, _, _ => none
def eBin3 (f : Fe) (op : BinOp) (es : List (E Ae)) : T4 :=
  match op with
  | .eql => (match es with
    | [.atom .idx, .lit (.int .i64 (-1))] => some (.lit (.bool f.neg))
    | _ => none)
  | .add => (match es with
    | [.atom .pos, .atom .dwid] => some (.atom .posw)
    | _ => none)
  | _ => none
def eBin21 (op : BinOp) : List (E Ae) → T4
  | [.atom (.re .r), .lit (.int .i32 c)] => match op with
    | .eql => some (.atom (.cmp .eq c))
    | .leq => some (.atom (.cmp .le c))
    | .geq => some (.atom (.cmp .ge c))
    | .gtr => some (.atom (.cmp .gt c))
    | .add => some (.atom (.re (.add c)))
    | .sub => some (.atom (.re (.sub c)))
    | _ => none
  | [.lit (.int .i32 c), .atom (.re .r)] => match op with
    | .add => some (.atom (.re (.add c)))
    | _ => none
  | _ => none
def eExtract (i : Nat) : List (E Ae) → T4
  | [.atom .dtup] => bif Nat.beq i 0 then some (.atom .drune) else bif Nat.beq i 1 then some (.atom .dwid) else none
  | [.atom .nxt] => bif Nat.beq i 0 then some (.lit (.bool true)) else bif Nat.beq i 1 then some (.atom .pos) else bif Nat.beq i 2 then some (.atom (.re .r)) else none
  | _ => none
def eLen (ats : Array TypeId) : List (E Ae) → T4
  | [.atom (.str s)] => match ats.toList with
    | [t] => bif Nat.beq t 9 then some (.atom (.len s)) else none
    | _ => none
  | _ => none
def pureE (f : Fe) (o : Op) (es : List (E Ae)) : T4 :=
  match o with
  | .load t _ => bif Nat.beq t 43 then (match es with
    | [.atom .mptr] => some (.atom .mask)
    | _ => none) else none
  | .slice t _ lo hi mx => bif Nat.beq t 9 then eSlice f lo hi mx es else none
  | .binOp op t _ _ t2 => bif Nat.beq t t2 then (bif Nat.beq t 3 then eBin3 f op es else bif Nat.beq t 21 then eBin21 op es else none) else none
  | .extract _ i => eExtract i es
  | .makeInterface t _ => bif Nat.beq t 79 then (match es with
    | [.atom .buf] => some (.atom .ifc)
    | _ => none) else none
  | .call c => match c.callee with
    | .builtin .len => eLen c.argTypes es
    | _ => none
  | _ => none
def callE (fl : Fe) (o : Op) (es : List (E Ae)) : Option (E Ae × List Eg) :=
  match o with
  | .call c => match c.callee with
    | .value (.func f) => (match es with
      | [.atom .mask, .lit (.int .u64 b)] => bif Nat.beq f 56 then some (.atom (.has b), []) else none
      | [.atom .tail] => bif Nat.beq f 57 then some (.atom .dtup, []) else none
      | [.atom .buf, .atom (.len .K)] => bif fl.fresh && Nat.beq f 61 then some (.lit (.tuple #[]), [.gr]) else none
      | [.atom .buf, .atom (.str s)] => bif Nat.beq f 62 then some (.atom (.sres s), [.st s]) else none
      | [.atom .ifc, .atom .tail] => bif Nat.beq f 69 then some (.atom .unq, [.ub]) else none
      | [.atom .buf, e] => bif Nat.beq f 63 then (match reOfe e with
        | some x => bif cstOk x then some (.atom (.wres x), [.rn x]) else none
        | none => none) else none
      | _ => none)
    | _ => none
  | _ => none
def limE (fl : Fe) (tr : List Eg) : List Eg → Bool
  | [] => true
  | [.gr] => tr.isEmpty
  | _ => Nat.ble tr.length 4 && !(fl.fresh && tr.isEmpty)
def rulesE (fl : Fe) (n : Nat) : Rules Ae Eg :=
  ⟨fun o es => match pureE fl o es with
    | some e => some (e, [])
    | none => callE fl o es, fun _ _ => none, isBe, n, limE fl⟩
/-- What must be so of the strings for the rules. -/
structure OkE (x : Ce) : Prop where
  mxK : x.K.size ≤ 17592186044416
  mxP : x.P.size ≤ 17592186044416
  mxU : x.U.size ≤ 17592186044416
  mxS : x.S.size ≤ 17592186044416
  neg : x.fl.neg = (x.ix == -1)
  ix : x.fl.neg = false → 0 ≤ x.ix ∧ x.ix ≤ x.K.size
  pos : x.pos ≤ x.S.size
  r : -2147483648 ≤ x.r ∧ x.r ≤ 2147483647
theorem Ce.d_le (x : Ce) (hx : OkE x) : x.pos + x.d.2 ≤ x.S.size := by
  have h := Lib.decodeGo_le_size (x.S.extract x.pos x.S.size)
  have hp := hx.pos
  have : (x.S.extract x.pos x.S.size).size = x.S.size - x.pos := by rw [ByteArray.size_extract]; omega
  unfold Ce.d
  omega
theorem Ce.str_le (x : Ce) (hx : OkE x) : ∀ s, (x.str s).size ≤ 17592186044416 := by
  intro s
  have := hx.mxK; have := hx.mxP; have := hx.mxU; have := hx.mxS
  cases s with
  | K => assumption
  | P => assumption
  | U => assumption
  | S => assumption
  | klo => show (x.K.extract 0 x.ix.toNat).size ≤ _; rw [ByteArray.size_extract]; omega
  | khi => show (x.K.extract x.ix.toNat x.K.size).size ≤ _; rw [ByteArray.size_extract]; omega
  | subw => show (x.S.extract x.pos (x.pos + x.d.2)).size ≤ _; rw [ByteArray.size_extract]; omega
theorem pureE_run (x : Ce) (hx : OkE x) {w : World} (hm : w.cell? x.mp = some (.int .u64 x.m)) (o : Oper) {es : List (E Ae)} {e : E Ae} {xs : List Operand} (h : pureE x.fl o.op es = some e) (hxs : opnds o.op = some xs) (a : Act) (he : xs.map a.eval = es.map (E.val x.V)) :
    (execOp a.eval o).run Tryd.prog w = .ok (.value (e.val x.V)) w := by
  have hK := hx.mxK
  have hP := hx.mxP
  have hU := hx.mxU
  have hS := hx.mxS
  have hd := x.d_le hx
  have hpo := hx.pos
  obtain ⟨dst, op, ty, pos, af, gd⟩ := o
  simp only at h hxs
  cases op with
  | load t y =>
    simp only [pureE] at h
    cases ht : Nat.beq t 43 with
    | false => rw [ht] at h; cases h
    | true =>
      obtain rfl := beq_t ht
      rw [ht] at h
      simp only [cond_true] at h
      split at h
      · cases h; cases hxs
        simp only [List.map_cons, List.map_nil, List.cons.injEq, and_true] at he
        exact r_load he hm
      · cases h
  | slice t y lo hi mx =>
    simp only [pureE] at h
    cases ht : Nat.beq t 9 with
    | false => rw [ht] at h; cases h
    | true =>
      obtain rfl := beq_t ht
      rw [ht] at h
      simp only [cond_true] at h
      simp only [opnds, Option.some.injEq] at hxs
      subst hxs
      unfold eSlice at h
      split at h
      · simp only [optL, List.append_nil, List.cons_append, List.nil_append] at he
        split at h
        · simp only [List.map_cons, List.map_nil, List.cons.injEq, and_true] at he
          cases hl : x.fl.neg with
          | true => rw [hl] at h; cases h
          | false =>
            rw [hl] at h; cases h
            have hi := hx.ix hl
            have h2 := he.2
            have e1 : x.ix = ((x.ix.toNat : Nat) : Int) := by omega
            simp only [E.val, Ce.V] at h2
            rw [e1] at h2
            exact r_slice_lo he.1 h2 (by omega)
        · simp only [List.map_cons, List.map_nil, List.cons.injEq, and_true] at he
          cases h
          exact r_slice_lo he.1 he.2 hpo
        · cases h
      · simp only [optL, List.append_nil, List.cons_append, List.nil_append] at he
        split at h
        · simp only [List.map_cons, List.map_nil, List.cons.injEq, and_true] at he
          cases hl : x.fl.neg with
          | true => rw [hl] at h; cases h
          | false =>
            rw [hl] at h; cases h
            have hi := hx.ix hl
            have h2 := he.2
            have e1 : x.ix = ((x.ix.toNat : Nat) : Int) := by omega
            simp only [E.val, Ce.V] at h2
            rw [e1] at h2
            exact r_slice_hi he.1 h2 (by omega)
        · cases h
      · simp only [optL, List.append_nil, List.cons_append, List.nil_append] at he
        split at h
        · simp only [List.map_cons, List.map_nil, List.cons.injEq, and_true] at he
          cases h
          exact r_slice_both he.1 he.2.1 he.2.2 (by omega) hd
        · cases h
      · cases h
  | binOp op t u v t2 =>
    simp only [pureE] at h
    cases ht : Nat.beq t t2 with
    | false => rw [ht] at h; cases h
    | true =>
      obtain rfl := beq_t ht
      rw [ht] at h
      simp only [cond_true] at h
      cases hxs
      cases h3 : Nat.beq t 3 with
      | true =>
        obtain rfl := beq_t h3
        rw [h3] at h
        simp only [cond_true] at h
        unfold eBin3 at h
        split at h
        · split at h
          · simp only [List.map_cons, List.map_nil, List.cons.injEq, and_true] at he
            cases h
            have := r_eql64 (w := w) (dst := dst) (ty := ty) (pos := pos) (af := af) (gd := gd) he.1 he.2
            rw [this]
            simp only [E.val]
            rw [hx.neg]
          · cases h
        · split at h
          · simp only [List.map_cons, List.map_nil, List.cons.injEq, and_true] at he
            cases h
            have := r_add64 (w := w) (dst := dst) (ty := ty) (pos := pos) (af := af) (gd := gd) he.1 he.2
            rw [this]
            simp only [E.val, Ce.V, Ce.str]
            rw [i64_id (by omega) (by omega)]
            rfl
          · cases h
        · cases h
      | false =>
        rw [h3] at h
        simp only [cond_false] at h
        cases h21 : Nat.beq t 21 with
        | false => rw [h21] at h; cases h
        | true =>
          obtain rfl := beq_t h21
          rw [h21] at h
          simp only [cond_true] at h
          unfold eBin21 at h
          split at h
          · simp only [List.map_cons, List.map_nil, List.cons.injEq, and_true] at he
            split at h
            · cases h; exact r_eql32 he.1 he.2
            · cases h; exact r_leq32 he.1 he.2
            · cases h; exact r_geq32 he.1 he.2
            · cases h; exact r_gtr32 he.1 he.2
            · cases h; exact r_add32 he.1 he.2
            · cases h; exact r_sub32 he.1 he.2
            · cases h
          · simp only [List.map_cons, List.map_nil, List.cons.injEq, and_true] at he
            split at h
            · cases h
              have := r_add32 (w := w) (dst := dst) (ty := ty) (pos := pos) (af := af) (gd := gd) he.1 he.2
              rw [this]
              simp only [E.val, Ce.V, RE.int]
              rw [Int.add_comm]
            · cases h
          · cases h
  | extract y i =>
    simp only [pureE] at h
    cases hxs
    unfold eExtract at h
    split at h
    · simp only [List.map_cons, List.map_nil, List.cons.injEq, and_true] at he
      cases h0 : Nat.beq i 0 with
      | true =>
        obtain rfl := beq_t h0
        rw [h0] at h
        cases h
        exact r_extract he rfl
      | false =>
        rw [h0] at h
        simp only [cond_false] at h
        cases h1 : Nat.beq i 1 with
        | true =>
          obtain rfl := beq_t h1
          rw [h1] at h
          cases h
          exact r_extract he rfl
        | false => rw [h1] at h; cases h
    · simp only [List.map_cons, List.map_nil, List.cons.injEq, and_true] at he
      cases h0 : Nat.beq i 0 with
      | true =>
        obtain rfl := beq_t h0
        rw [h0] at h
        cases h
        exact r_extract he rfl
      | false =>
        rw [h0] at h
        simp only [cond_false] at h
        cases h1 : Nat.beq i 1 with
        | true =>
          obtain rfl := beq_t h1
          rw [h1] at h
          cases h
          exact r_extract he rfl
        | false =>
          rw [h1] at h
          simp only [cond_false] at h
          cases h2 : Nat.beq i 2 with
          | true =>
            obtain rfl := beq_t h2
            rw [h2] at h
            cases h
            exact r_extract he rfl
          | false => rw [h2] at h; cases h
    · cases h
  | makeInterface t y =>
    simp only [pureE] at h
    cases ht : Nat.beq t 79 with
    | false => rw [ht] at h; cases h
    | true =>
      obtain rfl := beq_t ht
      rw [ht] at h
      simp only [cond_true] at h
      split at h
      · cases h; cases hxs
        simp only [List.map_cons, List.map_nil, List.cons.injEq, and_true] at he
        exact r_mkif he
      · cases h
  | call c =>
    simp only [pureE] at h
    split at h
    · rename_i hcal
      simp only [opnds, Option.some.injEq] at hxs
      subst hxs
      unfold eLen at h
      split at h
      · rename_i s
        split at h
        · rename_i t hat
          cases ht : Nat.beq t 9 with
          | false => rw [ht] at h; cases h
          | true =>
            obtain rfl := beq_t ht
            rw [ht] at h
            cases h
            obtain ⟨u, hargs, h3⟩ := args_one he
            obtain ⟨cal, args, ats⟩ := c
            obtain ⟨la⟩ := ats
            simp only at hcal hargs hat
            subst hcal hargs hat
            exact r_len (ats := #[]) h3 (Nat.le_trans (x.str_le hx s) (by decide))
        · cases h
      · cases h
    · cases h
  | _ => simp [pureE] at h
def Ce.eb (x : Ce) : Eg → List UInt8
  | .gr => []
  | .rn y => Lib.encodeRune (y.int x.r)
  | .st s => (x.str s).data.toList
  | .ub => (unqB (x.S.extract x.pos x.S.size)).toList
def Ce.bytes (x : Ce) (tr : List Eg) : List UInt8 := (tr.map x.eb).flatten
theorem Ce.bytes_app (x : Ce) (tr : List Eg) (e : Eg) : x.bytes (tr ++ [e]) = x.bytes tr ++ x.eb e := by
  simp [Ce.bytes]
theorem Ce.eb_le (x : Ce) (hx : OkE x) (e : Eg) : (x.eb e).length ≤ 17592186044416 := by
  cases e with
  | gr => exact Nat.zero_le _
  | rn y => exact Nat.le_trans (rune_le _) (by decide)
  | st s =>
    have h := x.str_le hx s
    have h0 : (x.str s).data.toList.length = (x.str s).size := Array.length_toList
    show (x.str s).data.toList.length ≤ _
    omega
  | ub =>
    show (unqB (x.S.extract x.pos x.S.size)).toList.length ≤ _
    cases unqB (x.S.extract x.pos x.S.size) with
    | none => exact Nat.zero_le _
    | some c => exact (by decide : (1 : Nat) ≤ 17592186044416)
theorem Ce.bytes_le (x : Ce) (hx : OkE x) : ∀ tr : List Eg, (x.bytes tr).length ≤ tr.length * 17592186044416
  | [] => Nat.zero_le _
  | e :: tr => by
    have h1 := x.eb_le hx e
    have h2 := x.bytes_le hx tr
    have h3 : x.bytes (e :: tr) = x.eb e ++ x.bytes tr := by simp [Ce.bytes]
    rw [h3, List.length_append, List.length_cons]
    omega
/-- The world: the buffer holds what was written; an iterator stays. -/
structure Re (x : Ce) (w0 : World) (acc : List UInt8) (ip : Option Nat) (tr : List Eg) (w : World) : Prop where
  low : Below w0.heap.size w0 w
  buf : if (x.fl.fresh && tr.isEmpty) = true then w.heap[x.b]? = some (.cells #[.slice none 0 0, .int .i64 0, .int .i8 0] 71 (0, 0)) else Lib.IsBuffer 71 5 w0.heap.size x.b (Lib.byteCells (acc ++ x.bytes tr)) w
  it : ∀ p, ip = some p → x.it ≠ x.b ∧ w.heap[x.it]? = some (.stringIter x.S p)
theorem Re.old {x : Ce} {w0 : World} {acc : List UInt8} {ip : Option Nat} {tr : List Eg} {w w' : World} (h : Re x w0 acc ip tr w) (hb : Below w.heap.size w w') : Re x w0 acc ip tr w' where
  low := h.low.trans (hb.mono h.low.size)
  buf := by
    have hbuf := h.buf
    split at hbuf
    · rename_i hc
      rw [if_pos hc]
      rw [hb.block x.b (Lib.lt_of_heap hbuf)]
      exact hbuf
    · rename_i hc
      rw [if_neg hc]
      exact hbuf.old hb
  it := fun p hp => ⟨(h.it p hp).1, by rw [hb.block x.it (Lib.lt_of_heap (h.it p hp).2)]; exact (h.it p hp).2⟩
theorem Re.drewN {x : Ce} {w0 : World} {acc : List UInt8} {ip : Option Nat} {tr : List Eg} {w : World} (h : Re x w0 acc ip tr w) (n : Nat) : Re x w0 acc ip tr (w.drewN n) :=
  ⟨below_drewN h.low n, h.buf, h.it⟩
theorem Re.wrote {x : Ce} {w0 : World} {acc : List UInt8} {ip : Option Nat} {tr : List Eg} {e : Eg} {w w' : World} (h : Re x w0 acc ip tr w) (hI : Lib.IsBuffer 71 5 w0.heap.size x.b (Lib.byteCells (acc ++ x.bytes tr) ++ Lib.byteCells (x.eb e)) w')
    (hb : Below w0.heap.size w w') (hk : Lib.OthersKept 5 (some x.b) w w') : Re x w0 acc ip (tr ++ [e]) w' where
  low := h.low.trans hb
  buf := by
    rw [if_neg (by simp)]
    rw [x.bytes_app, ← List.append_assoc, Lib.byteCells_append]
    exact hI
  it := fun p hp => ⟨(h.it p hp).1, hk.iter (h.it p hp).2 (h.it p hp).1⟩
theorem enter69 (args : Array Value) (w : World) : (callFunc 69 args).run Tryd.prog w = .ok (.enter 69 args) w := by kernel_rfl
theorem RE.i32e {x : Ce} (hx : OkE x) (y : RE) (hy : ∀ c, y = .cst c → -2147483648 ≤ c ∧ c ≤ 2147483647) : -2147483648 ≤ y.int x.r ∧ y.int x.r ≤ 2147483647 := by
  have hr := hx.r
  have hw : ∀ z : Int, -2147483648 ≤ IntKind.i32.wrap z ∧ IntKind.i32.wrap z ≤ 2147483647 := by
    intro z
    unfold IntKind.wrap
    simp [IntKind.bits, IntKind.signed]
    omega
  cases y with
  | r => exact hr
  | add c => exact hw _
  | sub c => exact hw _
  | cst c => exact hy c rfl
theorem ewrite63 {x : Ce} (hx : OkE x) {w0 w : World} {acc : List UInt8} {ip : Option Nat} {tr : List Eg} (hacc : acc.length ≤ 35184372088832) (hl : tr.length ≤ 4) (hf : ¬ (x.fl.fresh && tr.isEmpty) = true) (hR : Re x w0 acc ip tr w) (y : RE) (hy : cstOk y = true) :
    Calls Tryd.prog 63 #[.pointer (some ⟨x.b, 0, none⟩), .int .i32 (y.int x.r)] w fun e w' => e = .returned (x.V (.wres y)) ∧ Re x w0 acc ip (tr ++ [.rn y]) w' := by
  have hb := hR.buf
  rw [if_neg hf] at hb
  have hbl := x.bytes_le hx tr
  have hr := RE.i32e hx y (by
    intro c hc
    subst hc
    simp only [cstOk, Bool.and_eq_true, decide_eq_true_eq] at hy
    exact hy)
  refine (Any.Buffer_WriteRune_k Laid.L_n5 w0.heap.size x.b (Lib.byteCells (acc ++ x.bytes tr)) (y.int x.r) hr.1 hr.2 w hb hR.low.size (Lib.byteCells_one _) ?_).mono ?_
  · rw [Lib.byteCells_length, List.length_append]; omega
  · rintro e w' ⟨rfl, h2, h3, h4⟩
    refine ⟨rfl, hR.wrote ?_ h3 h4⟩
    show Lib.IsBuffer 71 5 w0.heap.size x.b (Lib.byteCells (acc ++ x.bytes tr) ++ Lib.byteCells (Lib.encodeRune (y.int x.r))) w'
    rw [Lib.byteCells_encodeRune]
    exact h2
theorem ewrite62 {x : Ce} (hx : OkE x) {w0 w : World} {acc : List UInt8} {ip : Option Nat} {tr : List Eg} (hacc : acc.length ≤ 35184372088832) (hl : tr.length ≤ 4) (hf : ¬ (x.fl.fresh && tr.isEmpty) = true) (hR : Re x w0 acc ip tr w) (s : Sb) :
    Calls Tryd.prog 62 #[.pointer (some ⟨x.b, 0, none⟩), .string (x.str s)] w fun e w' => e = .returned (x.V (.sres s)) ∧ Re x w0 acc ip (tr ++ [.st s]) w' := by
  have hb := hR.buf
  rw [if_neg hf] at hb
  have hbl := x.bytes_le hx tr
  have hs := x.str_le hx s
  refine (Any.Buffer_WriteString_k Laid.L_n178 w0.heap.size x.b (Lib.byteCells (acc ++ x.bytes tr)) (x.str s) w hb hR.low.size (Lib.byteCells_one _) ?_).mono ?_
  · rw [Lib.byteCells_length, List.length_append]; omega
  · rintro e w' ⟨rfl, h2, h3, h4⟩
    exact ⟨rfl, hR.wrote h2 h3 h4⟩
theorem ewrite69 {x : Ce} (hx : OkE x) {w0 w : World} {acc : List UInt8} {ip : Option Nat} {tr : List Eg} (hacc : acc.length ≤ 35184372088832) (hl : tr.length ≤ 4) (hf : ¬ (x.fl.fresh && tr.isEmpty) = true) (hes : ErrOk w0) (hR : Re x w0 acc ip tr w) :
    Calls Tryd.prog 69 #[.iface 79 (.pointer (some ⟨x.b, 0, none⟩)), .string (x.S.extract x.pos x.S.size)] w fun e w' => e = .returned (x.V .unq) ∧ Re x w0 acc ip (tr ++ [.ub]) w' := by
  have hb := hR.buf
  rw [if_neg hf] at hb
  have hbl := x.bytes_le hx tr
  have hs := hx.mxS
  refine (unquoted69 w0.heap.size x.b (Lib.byteCells (acc ++ x.bytes tr)) (x.S.extract x.pos x.S.size) w hb hR.low.size (Lib.byteCells_one _) ?_ (by rw [ByteArray.size_extract]; omega) (hes.below hR.low)).mono ?_
  · rw [Lib.byteCells_length, List.length_append]; omega
  · rintro e w' ⟨rfl, h2, h3, h4⟩
    exact ⟨rfl, hR.wrote h2 h3 h4⟩
theorem egrow_61 {x : Ce} (hx : OkE x) {w0 w : World} {acc : List UInt8} {tr : List Eg} (hfr : x.fl.fresh = true) (hacc : acc = []) (hB : w0.heap.size ≤ x.b) (hl : tr.isEmpty = true) {ip : Option Nat} (hip : ip = none) (hR : Re x w0 acc ip tr w) :
    Calls Tryd.prog 61 #[.pointer (some ⟨x.b, 0, none⟩), x.V (.len .K)] w fun e w' => e = .returned (.tuple #[]) ∧ Re x w0 acc ip (tr ++ [.gr]) w' := by
  have hb := hR.buf
  rw [if_pos (by rw [hfr, hl]; rfl)] at hb
  have := hx.mxK
  refine (grow61n w0.heap.size x.b x.K.size w hB hR.low.size hb (by omega)).mono ?_
  rintro e w' ⟨rfl, h2, h3⟩
  refine ⟨rfl, hR.low.trans h3, ?_, fun p hp => by rw [hip] at hp; cases hp⟩
  rw [if_neg (by simp)]
  have ht : tr = [] := List.isEmpty_iff.1 hl
  subst ht hacc
  exact h2
theorem reOfe_val {x : Ce} {e : E Ae} {y : RE} (h : reOfe e = some y) : e.val x.V = .int .i32 (y.int x.r) := by
  cases e with
  | lit v =>
    cases v with
    | int k c =>
      cases k <;> simp [reOfe] at h
      subst h
      rfl
    | _ => simp [reOfe] at h
  | atom t =>
    cases t <;> simp [reOfe] at h
    subst h
    rfl
set_option maxHeartbeats 1000000 in
set_option maxRecDepth 100000 in
theorem soundE (n : Nat) (x : Ce) (hx : OkE x) (w0 : World) (hw : WorldOk w0 x.mp x.m) (hes : ErrOk w0) (acc : List UInt8) (hacc : acc.length ≤ 35184372088832) (ip : Option Nat) (hfr : x.fl.fresh = true → acc = [] ∧ ip = none) (hB : w0.heap.size ≤ x.b) : Sound (rulesE x.fl n) Tryd.prog x.V x.B (Re x w0 acc ip) where
  isB := by
    intro t ht
    cases t <;> first | rfl | cases ht
  quiet := by intro o es e xs h; cases h
  mixed := by kernel_rfl
  drew := fun tr w n h => h.drewN n
  rule := by
    intro o es e f xs h hxs a w tr next Q hlim he hR hn
    have h' : (match pureE x.fl o.op es with
      | some e => some (e, ([] : List Eg))
      | none => callE x.fl o.op es) = some (e, f) := h
    have hlim' : limE x.fl tr f = true := hlim
    split at h'
    · rename_i e2 h2
      cases h'
      have := pureE_run x hx (hw.below hR.low).mask o h2 hxs a he
      unfold Oper.wp
      rw [this]
      exact hn w (by simpa using hR)
    · obtain ⟨dst, op, ty, pos, af, gd⟩ := o
      simp only at h' hxs hn
      cases op with
      | call c =>
        simp only [callE] at h'
        split at h'
        · rename_i fn hcal
          simp only [opnds, Option.some.injEq] at hxs
          subst hxs
          split at h'
          · rename_i b
            cases ht : Nat.beq fn 56 with
            | false => rw [ht] at h'; cases h'
            | true =>
              obtain rfl := beq_t ht
              rw [ht] at h'
              cases h'
              obtain ⟨u, v, hargs, h3, h4⟩ := args_two he
              obtain ⟨cal, args, ats⟩ := c
              simp only at hcal hargs
              subst hcal hargs
              refine s_has h3 h4 (fun w' hd => hn w' ?_)
              obtain ⟨k, rfl⟩ := hd
              rw [List.append_nil]
              exact hR.drewN k
          · cases ht : Nat.beq fn 57 with
            | false => rw [ht] at h'; cases h'
            | true =>
              obtain rfl := beq_t ht
              rw [ht] at h'
              cases h'
              obtain ⟨u, hargs, h3⟩ := args_one he
              obtain ⟨cal, args, ats⟩ := c
              simp only at hcal hargs
              subst hcal hargs
              exact s_dec57 (hw.below hR.low).tabs h3 (fun w' hd => hn w' (by rw [List.append_nil]; exact hR.old hd))
          · cases ht : x.fl.fresh && Nat.beq fn 61 with
            | false => rw [ht] at h'; cases h'
            | true =>
              rw [ht] at h'
              simp only [Bool.and_eq_true] at ht
              obtain ⟨ht1, ht2⟩ := ht
              obtain rfl := beq_t ht2
              cases h'
              obtain ⟨u, v, hargs, h3, h4⟩ := args_two he
              obtain ⟨cal, args, ats⟩ := c
              simp only at hcal hargs
              subst hcal hargs
              exact s_call2 enter61 h3 h4 (egrow_61 hx ht1 (hfr ht1).1 hB hlim' (hfr ht1).2 hR) hn
          · rename_i s hpb
            cases ht : Nat.beq fn 62 with
            | false => rw [ht] at h'; cases h'
            | true =>
              obtain rfl := beq_t ht
              rw [ht] at h'
              cases h'
              obtain ⟨u, v, hargs, h3, h4⟩ := args_two he
              obtain ⟨cal, args, ats⟩ := c
              simp only at hcal hargs
              subst hcal hargs
              simp only [limE, Bool.and_eq_true] at hlim'
              exact s_call2 enter62 h3 h4 (ewrite62 hx hacc (Nat.le_of_ble_eq_true hlim'.1) (by intro hc; rw [hc] at hlim'; cases hlim'.2) hR s) hn
          · cases ht : Nat.beq fn 69 with
            | false => rw [ht] at h'; cases h'
            | true =>
              rw [ht] at h'
              obtain rfl := beq_t ht
              cases h'
              obtain ⟨u, v, hargs, h3, h4⟩ := args_two he
              obtain ⟨cal, args, ats⟩ := c
              simp only at hcal hargs
              subst hcal hargs
              simp only [limE, Bool.and_eq_true] at hlim'
              exact s_call2 enter69 h3 h4 (ewrite69 hx hacc (Nat.le_of_ble_eq_true hlim'.1) (by intro hc; rw [hc] at hlim'; cases hlim'.2) hes hR) hn
          · cases ht : Nat.beq fn 63 with
            | false => rw [ht] at h'; cases h'
            | true =>
              obtain rfl := beq_t ht
              rw [ht] at h'
              simp only [cond_true] at h'
              split at h'
              · rename_i y hy
                cases hc : cstOk y with
                | false => rw [hc] at h'; cases h'
                | true =>
                  rw [hc] at h'
                  cases h'
                  obtain ⟨u, v, hargs, h3, h4⟩ := args_two he
                  obtain ⟨cal, args, ats⟩ := c
                  simp only at hcal hargs
                  subst hcal hargs
                  simp only [limE, Bool.and_eq_true] at hlim'
                  exact s_call2 enter63 h3 (h4.trans (reOfe_val hy)) (ewrite63 hx hacc (Nat.le_of_ble_eq_true hlim'.1) (by intro hc; rw [hc] at hlim'; cases hlim'.2) hR y hc) hn
              · cases h'
          · cases h'
        · cases h'
      | _ => simp [callE] at h'
end Go.Proofs.YtonmnpmklkbioaaDoor.Sy
