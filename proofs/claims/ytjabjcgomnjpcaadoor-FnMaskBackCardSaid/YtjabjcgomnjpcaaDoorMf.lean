/- strconv.FormatUint at base 16. -/
import Derived.Test.YtjabjcgomnjpcaaDoorMq
import Derived.Lib.Builder
import Derived.Lib.Builder
import Derived.Lib.Builder
import Derived.Lib.Builder
import Derived.Lib.Builder
namespace Go.Proofs.YtjabjcgomnjpcaaDoor.Given
open Go.RowKit Go.Proofs.YtjabjcgomnjpcaaDoorW.PrintWords Go.Proofs.YtjabjcgomnjpcaaDoorW.PrintLast Go.Proofs.YtjabjcgomnjpcaaDoorW.PrintMore Go.Proofs.YtjabjcgomnjpcaaDoor.PM
open Go.Proofs.YtjabjcgomnjpcaaDoor.Zp
set_option linter.unusedVariables false
set_option linter.unusedSimpArgs false

/-- The byte of a table that says where the bit of sixteen stands. -/
def Dv (w : World) : Prop := w.cell? ⟨10, 15, none⟩ = some (.int .u8 4)
theorem Dv.below {w w' : World} (h : Dv w) (hb : Below w.heap.size w w') : Dv w' := (hb.cell (World.block_lt_of_cell? w _ h)).trans h
theorem zeros77 (w : World) (h : Dv w) : Calls Tryd.prog 77 #[.int .u64 16] w fun e w' => e = .returned (.int .i64 4) ∧ w' = w := by
  have hc : w.cell? ⟨10, 15, none⟩ = some (.int .u8 4) := h
  have h1 : Go.bits .and .u64 16 (IntKind.u64.wrap (-16)) = 16 := by decide
  have h2 : (0 : Int) + 15 = 15 := rfl
  clear h
  go_enter Tryd.func77, Tryd.ntmps77
  go_wp2
  go_ret
  exact ⟨rfl, rfl⟩
theorem zeros66 (w : World) (h : Dv w) : Calls Tryd.prog 66 #[.int .u64 16] w fun e w' => e = .returned (.int .i64 4) ∧ w' = w := by
  have c77 := zeros77 w h
  go_enter Tryd.func66, Tryd.ntmps66
  go_wp2_with (go_at_call 77; refine c77.mono ?_; rintro e w1 ⟨rfl, rfl⟩)
  go_ret
  exact ⟨rfl, rfl⟩
theorem power65 (w : World) : Calls Tryd.prog 65 #[.int .i64 16] w fun e w' => e = .returned (.bool true) ∧ w' = w := by
  have h1 : Go.bits .and .i64 16 15 = 0 := by decide
  go_enter Tryd.func65, Tryd.ntmps65
  go_wp2
  go_ret
  exact ⟨rfl, rfl⟩
/-- The hexadecimal digits of a number, in small letters, before what stands behind. -/
def hexL : Nat → Nat → List UInt8 → List UInt8
  | 0, _, r => r
  | f + 1, u, r => if u < 16 then UInt8.ofNat (if u < 10 then 48 + u else 87 + u) :: r else hexL f (u / 16) (UInt8.ofNat (if u % 16 < 10 then 48 + u % 16 else 87 + u % 16) :: r)
def digs : ByteArray := ⟨#[48, 49, 50, 51, 52, 53, 54, 55, 56, 57, 97, 98, 99, 100, 101, 102, 103, 104, 105, 106, 107, 108, 109, 110, 111, 112, 113, 114, 115, 116, 117, 118, 119, 120, 121, 122]⟩
def dg16 (t : Nat) : UInt8 := UInt8.ofNat (if t < 10 then 48 + t else 87 + t)
theorem digs_at : ∀ t : Fin 16, digs[t.val]'(by have := t.isLt; show t.val < 36; omega) = dg16 t.val := by decide
theorem and15 (u : Nat) (hu : u < 2 ^ 64) : Go.bits .and .u64 (u : Int) 15 = ((u % 16 : Nat) : Int) := by
  have h : (BitVec.ofInt 64 (u : Int) &&& BitVec.ofInt 64 (15 : Int)).toNat = u % 16 := by
    have e : BitVec.ofInt 64 (15 : Int) = BitVec.ofNat 64 15 := rfl
    rw [BitVec.toNat_and, BitVec.ofInt_natCast, e, BitVec.toNat_ofNat, BitVec.toNat_ofNat, Nat.mod_eq_of_lt hu]
    exact Nat.and_two_pow_sub_one_eq_mod u 4
  have h2 : Go.bits .and .u64 (u : Int) 15 = IntKind.u64.wrap (((BitVec.ofInt 64 (u : Int) &&& BitVec.ofInt 64 (15 : Int)).toNat : Nat) : Int) := rfl
  rw [h2, h]
  show ((u % 16 : Nat) : Int) % 18446744073709551616 = _
  omega
theorem set_drop {cs : Array Value} {j : Nat} (v : Value) (hj : j < cs.size) : (cs.setIfInBounds j v).toList.drop j = v :: cs.toList.drop (j + 1) := by
  have hl : j < (cs.toList.set j v).length := by rw [List.length_set, Array.length_toList]; exact hj
  rw [Array.toList_setIfInBounds, List.drop_eq_getElem_cons hl, List.getElem_set_self, List.drop_set_of_lt (by omega)]
theorem addr_addJ (b o j : Nat) : (⟨b, o, none⟩ : Addr).add j = ⟨b, o + j, none⟩ := by simp [Addr.add]
theorem slice103 (g j : Nat) (hj : j < 65) (W : World) : (Instr.sliceAt 103 (.pointer (some ⟨g, 0, none⟩)) (some (.int .i64 (j : Int))) none none).run Tryd.prog W = .ok (.slice (some ⟨g, j, none⟩) (65 - j) (65 - j)) W := by
  have e : Tryd.prog.arrayLen 103 = 65 := by kernel_rfl
  have e2 : ∀ W, (sizeOf (Tryd.prog.elem 103)).run Tryd.prog W = .ok 1 W := fun W => by
    have : Tryd.prog.elem 103 = 5 := by kernel_rfl
    rw [this]
    simp [go_sem]
  rw [run_sliceAt_array_l W 103 ⟨g, 0, none⟩ (by kernel_rfl) .i64 (j : Int) (by omega) (by rw [e]; omega), e2]
  simp only [Result.andThen, slicedAt, e, Int.toNat_natCast, Nat.mul_one]
  rw [if_neg (by omega), addr_addJ, Nat.zero_add]
set_option maxHeartbeats 4000000 in
set_option maxRecDepth 100000 in
theorem bits47 (u : Nat) (w : World) (hu : u < 2 ^ 64) (h : Dv w) : Calls Tryd.prog 47 #[.slice none 0 0, .int .u64 (u : Int), .int .i64 16, .bool false, .bool false] w fun e w' => e = .returned (.tuple #[.slice none 0 0, .string (strB (hexL 16 u []))]) ∧ Below w.heap.size w w' := by
  have c66 := fun W (h : Dv W) => zeros66 W h
  have c65 := fun W => power65 W
  obtain ⟨R, hR⟩ : ∃ R, hexL 16 u [] = R := ⟨_, rfl⟩
  rw [hR]
  have hW1 := heap_alloc_new w (.cells Tryd.zeroCells103 103)
  have hWb : Below w.heap.size w (w.alloc (.cells Tryd.zeroCells103 103)) := (Below.refl _ w).alloc (Nat.le_refl _) _
  have hD := h.below hWb
  have hz : Tryd.zeroCells103.size = 65 := by kernel_rfl
  have hst := Lib.hid (And.intro hW1 hWb)
  have hR2 := Lib.hid (And.intro hR hu)
  clear hW1 hWb hR hu
  go_enter Tryd.func47, Tryd.ntmps47
  go_wp2_with (first | (go_at_call 65; refine (c65 _).mono ?_; rintro e w1 ⟨rfl, rfl⟩) | (go_at_call 66; refine (c66 _ hD).mono ?_; rintro e w1 ⟨rfl, rfl⟩))
  obtain ⟨g, hg⟩ : ∃ g, w.heap.size = g := ⟨_, rfl⟩
  rw [hg]
  obtain ⟨W0, hW0⟩ : ∃ W, w.alloc (.cells Tryd.zeroCells103 103) = W := ⟨_, rfl⟩
  rw [hW0]
  have hst2 : Hid (W0.heap[g]? = some (.cells Tryd.zeroCells103 103) ∧ Below g w W0) := Lib.hid (by rw [← hg, ← hW0]; exact hst.out)
  have hgs := Lib.hid hg
  clear hst hW0 hD c65 c66 h hg
  go_loopg [1, 13] 16 (fun gf s1 s13 wx => ∃ (u' j : Nat) (cs : Array Value) (ds : List UInt8), s1 = .int .u64 (u' : Int) ∧ s13 = .int .i64 ((j : Int) + 1) ∧ wx.heap[g]? = some (.cells cs 103 (0, 0)) ∧ cs.size = 65 ∧ Hid (1 ≤ gf ∧ Below g w wx ∧ j + 1 + ds.length = 65 ∧ cs.toList.drop (j + 1) = ds.map (fun b => Value.int .u8 (b.toNat : Int)) ∧ ds.length + gf = 16 ∧ u' < 16 ^ gf ∧ hexL gf u' ds = R))
  case atStart => exact ⟨u, 64, Tryd.zeroCells103, [], rfl, rfl, hst2.out.1, hz, Lib.hid ⟨by decide, hst2.out.2, rfl, List.drop_eq_nil_of_le (by rw [Array.length_toList, hz]; decide), rfl, hR2.out.2, hR2.out.1⟩⟩
  case round =>
    obtain ⟨u', j, cs, ds, rfl, rfl, hcs, hcz, hH⟩ := hrel
    clear hR2 hst2
    obtain ⟨h0, h1, h2, h3, h4, h5, h6⟩ := hH.out
    have hj : j < 65 := by omega
    obtain ⟨x, hx⟩ : ∃ x, wr.cell? ⟨g, j, none⟩ = some x := by
      rw [Lib.cell_of_heap hcs]
      exact ⟨cs[j]'(by omega), by rw [Array.getElem?_eq_getElem (by omega)]⟩
    have hfr : wr.frozen? ⟨g, j, none⟩ = false := frozen_of_row wr g j cs 103 hcs
    have hj2 : (j : Int) < 65 := by omega
    have hxx := Lib.hid hx
    by_cases h16 : u' < 16
    · have hu16 : (u' : Int) < 16 := by omega
      have hp : u' < digs.size := by show u' < 36; omega
      obtain ⟨V, hV⟩ : ∃ V : Value, Value.int .u8 ((digs[u']'hp).toNat : Int) = V := ⟨_, rfl⟩
      have hV2 : V = .int .u8 ((dg16 u').toNat : Int) := by rw [← hV]; have := digs_at ⟨u', h16⟩; dsimp only at this; rw [this]
      have hRe : R = dg16 u' :: ds := by
        rw [← h6]
        obtain ⟨g', rfl⟩ : ∃ g', gk = g' + 1 := ⟨gk - 1, by omega⟩
        unfold hexL
        rw [if_pos h16]
        rfl
      have hh := heap_setCell_same wr g j cs 103 V hcs
      have hb := h1.setCell (p := ⟨g, j, none⟩) (Nat.le_refl _) V
      have hlen : Hid (R.length = 65 - j) := Lib.hid (by rw [hRe, List.length_cons]; omega)
      have hconv := Lib.hid (show ∀ cap, (convert 54 9 (.slice (some ⟨g, j, none⟩) (65 - j) cap)).run Tryd.prog (wr.setCell ⟨g, j, none⟩ V) = .ok (.string (strB R)) (wr.setCell ⟨g, j, none⟩ V) from fun cap => by
        rw [← hlen.out]
        refine run_convert_bytes_back _ 54 9 5 ⟨g, j, none⟩ cap R Tryd.underlying54 Tryd.underlying5 Tryd.underlying9 (fun k hk => ?_)
        rw [addr_addJ, Lib.cell_of_heap hh]
        have e1 : (cs.setIfInBounds j V).toList.drop j = R.map (fun b => Value.int .u8 (b.toNat : Int)) := by
          rw [set_drop V (by omega), h3, hRe, hV2]
          rfl
        have e2 := congrArg (·[k]?) e1
        simp only [List.getElem?_drop, List.getElem?_map, Array.getElem?_toList] at e2
        rw [e2, List.getElem?_eq_getElem hk]
        rfl)
      have hend := Lib.hid hb
      have hsl := slice103 g j hj
      have hcv := hconv.out (65 - j)
      rw [← hV] at hcv
      unfold digs at hcv
      clear hH h0 h1 h2 h3 h4 h5 h6 h16 hh hb hRe hV2 hlen hconv
      go_wp2
      erw [hcv]
      simp only [Result.andThen]
      rw [Oper.upon_value]
      go_wp2
      go_ret2
      refine ⟨rfl, ?_⟩
      have hfin := hend.out
      rw [← hV] at hfin
      rw [hgs.out]
      exact hfin
    · have hk : 2 ≤ gk := by
        rcases Nat.lt_or_ge gk 2 with h | h
        · have : gk = 1 := by omega
          subst this
          simp at h5
          omega
        · exact h
      obtain ⟨g', rfl⟩ : ∃ g', gk = g' + 1 := ⟨gk - 1, by omega⟩
      have hlt : u' < 2 ^ 64 := Nat.lt_of_lt_of_le h5 (Nat.le_trans (Nat.pow_le_pow_right (by decide) (show g' + 1 ≤ 16 by omega)) (by decide))
      have hand := and15 u' hlt
      have hu16 : (16 : Int) ≤ (u' : Int) := by omega
      obtain ⟨V, hV⟩ : ∃ V : Value, Value.int .u8 ((digs[u' % 16]'(by show u' % 16 < 36; omega)).toNat : Int) = V := ⟨_, rfl⟩
      have hV2 : V = .int .u8 ((dg16 (u' % 16)).toNat : Int) := by rw [← hV]; have := digs_at ⟨u' % 16, by omega⟩; dsimp only at this; rw [this]
      have hh := heap_setCell_same wr g j cs 103 V hcs
      have hb := h1.setCell (p := ⟨g, j, none⟩) (Nat.le_refl _) V
      have hrel := Lib.hid (show ((j : Int) = ((j - 1 : Nat) : Int) + 1) ∧ (u' : Int) / 16 = ((u' / 16 : Nat) : Int) ∧ 1 ≤ g' ∧ (j - 1) + 1 + (dg16 (u' % 16) :: ds).length = 65 ∧ (cs.setIfInBounds j V).toList.drop (j - 1 + 1) = (dg16 (u' % 16) :: ds).map (fun b => Value.int .u8 (b.toNat : Int)) ∧ (dg16 (u' % 16) :: ds).length + g' = 16 ∧ u' / 16 < 16 ^ g' ∧ hexL g' (u' / 16) (dg16 (u' % 16) :: ds) = R from by
        refine ⟨by omega, by omega, by omega, by rw [List.length_cons]; omega, ?_, by rw [List.length_cons]; omega, ?_, ?_⟩
        · rw [show j - 1 + 1 = j by omega, set_drop V (by omega), h3, hV2]
          rfl
        · rw [Nat.pow_succ] at h5
          exact Nat.div_lt_of_lt_mul (by omega)
        · rw [← h6]
          conv => rhs; unfold hexL
          rw [if_neg h16]
          rfl)
      have hh2 := Lib.hid hh
      have hb2 := Lib.hid hb
      clear hH h0 h1 h2 h3 h4 h5 h6 h16 hh hb hV2 hlt hk
      go_wp2
      go_roundg g'
      case measure => exact Nat.lt_succ_self _
      case rel =>
        obtain ⟨r1, r2, r3, r4, r5, r6, r7, r8⟩ := hrel.out
        exact ⟨u' / 16, j - 1, cs.setIfInBounds j V, _, by rw [r2], by rw [← r1], by rw [← hh2.out, ← hV]; rfl, by rw [Array.size_setIfInBounds]; exact hcz, Lib.hid ⟨r3, by have := hb2.out; rw [← hV] at this; exact this, r4, r5, r6, r7, r8⟩⟩
end Go.Proofs.YtjabjcgomnjpcaaDoor.Given
