/- 6 texts of this claim, one behind the other. -/
import Derived.Test.YtonmnpmklkbioaaDoorGa
import Derived.Test.YtonmnpmklkbioaaDoorGf
import Derived.Shelf.GgClosure.StringsIndexFunc
import Derived.Lib.FrozenHead
/- spec.Units: the characters of a name, one unit each. -/
namespace Go.Proofs.YtonmnpmklkbioaaDoor.Given
open Go.RowKit Go.Proofs.YtonmnpmklkbioaaDoorW.PrintWords Go.Proofs.YtonmnpmklkbioaaDoorW.PrintLast Go.Proofs.YtonmnpmklkbioaaDoorW.PrintMore Go.Proofs.YtonmnpmklkbioaaDoor.PN
open Go.Proofs.YtonmnpmklkbioaaDoor.Pt (Ch Tk flat chars chs isBad sgn sof signed betw leftC rightC encC dotC hexc isC run Pr hd qt)
open Go.Proofs.YtonmnpmklkbioaaDoor.Sy (tl strB tl_size drop_end drop_ne chars_at getD_tl strB_tl tl_strB dec_err dec_fffd dec_one)
set_option linter.unusedVariables false
set_option linter.unusedSimpArgs false
theorem w64n {p k : Nat} (h : p + k ≤ 9223372036854775807) : wrap64 ((p : Int) + (k : Int)) = ((p + k : Nat) : Int) := by unfold wrap64; omega
theorem info52 : (Tryd.prog.info? 52).map (fun i => (i.zero, i.size, i.bytes)) = some (some (.agg #[(.string ⟨#[]⟩), (.int .i32 0), (.bool false)]), 3, 24) := by kernel_rfl
/-- A character as a unit. -/
def un : Ch → S52
  | .g r => ⟨strB (Lib.encodeRune (r : Int)), (r : Int), false⟩
  | .b x => ⟨⟨#[x]⟩, -1, true⟩
def spec_Units.f (s : ByteArray) : Option (List S52) := if s.size ≤ 1000000000000 then some ((chars (tl s)).map un) else none
/-- The model's own writing of a rune. -/
theorem encode_is {r : Nat} (h : Pt.Good r) : Utf8.encode (r : Int) = strB (Lib.encodeRune (r : Int)) := by
  have hv : Utf8.valid (r : Int) = true := by
    unfold Utf8.valid
    unfold Pt.Good at h
    simp only [Bool.or_eq_true, Bool.and_eq_true, decide_eq_true_eq]
    omega
  have hb : ∀ (z : Int) (n : Nat), z = (n : Int) → z.toNat.toUInt8 = UInt8.ofNat n := by
    intro z n h
    subst h
    rfl
  unfold Utf8.encode
  simp only [hv, if_true, Int.toNat_natCast]
  unfold strB Lib.encodeRune
  unfold Pt.Good at h
  rcases (show r ≤ 127 ∨ (128 ≤ r ∧ r ≤ 2047) ∨ (2048 ≤ r ∧ r < 65536) ∨ (65536 ≤ r ∧ r ≤ 1114111) by omega) with h1 | h1 | h1 | h1
  · rw [Lib.encodeRuneZ_one (by omega) (by omega), if_pos (by omega)]
    rfl
  · rw [Lib.encodeRuneZ_two (by omega) (by omega), if_neg (by omega), if_pos (by omega)]
    simp only [List.map_cons, List.map_nil]
    rw [hb (192 + (r : Int) / 64) (192 + r / 64) (by omega), hb (128 + (r : Int) % 64) (128 + r % 64) (by omega)]
  · rw [Lib.encodeRuneZ_three (by omega), if_neg (by omega), if_neg (by omega), if_pos (by omega)]
    simp only [List.map_cons, List.map_nil]
    rw [hb (224 + (r : Int) / 4096) (224 + r / 4096) (by omega), hb (128 + (r : Int) / 64 % 64) (128 + r / 64 % 64) (by omega), hb (128 + (r : Int) % 64) (128 + r % 64) (by omega)]
  · rw [Lib.encodeRuneZ_four (by omega) (by omega), if_neg (by omega), if_neg (by omega), if_neg (by omega)]
    simp only [List.map_cons, List.map_nil]
    rw [hb (240 + (r : Int) / 262144) (240 + r / 262144) (by omega), hb (128 + (r : Int) / 4096 % 64) (128 + r / 4096 % 64) (by omega), hb (128 + (r : Int) / 64 % 64) (128 + r / 64 % 64) (by omega), hb (128 + (r : Int) % 64) (128 + r % 64) (by omega)]
set_option maxHeartbeats 4000000 in
set_option maxRecDepth 100000 in
theorem spec_Units.calls (s : ByteArray) (r : List S52) (w : World) (h : spec_Units.f s = some r) :
    Calls Tryd.prog 37 #[.string s] w fun e w' => ∃ v0_ : Value, e = .returned (v0_) ∧ Kd.R k52 52 w' w.heap.size (fun _ => True) v0_ r ∧ Below w.heap.size w w' := by
  have hu52 := Tryd.underlying52
  unfold spec_Units.f at h
  split at h
  · rename_i hs
    have h := Option.some.inj h
    subst h
    go_enter Tryd.func37, Tryd.ntmps37
    go_wp2
    go_loopg [3] s.size (fun gf s3 wx => ∃ (pos : Nat) (L : List Ch), wx.heap[w.heap.size]? = some (.stringIter s pos) ∧ Below w.heap.size w wx ∧ Kd.R k52 52 wx w.heap.size (fun k => k ≠ w.heap.size) s3 (L.map un) ∧ L.length ≤ pos ∧ Hid (L ++ chars ((tl s).drop pos) = chars (tl s)) ∧ s.size ≤ pos + gf)
    case atStart =>
      refine ⟨0, [], World.iter_heap w s 0, (Below.refl _ w).alloc (Nat.le_refl _) _, ?_, Nat.le_refl _, Lib.hid (by rw [List.drop_zero]; rfl), by omega⟩
      exact Kd.R_nil _ _ _ _ _
    case round =>
      obtain ⟨pos, L, hit, hbw, HO, hLp, hH, hfu⟩ := hrel
      by_cases hps : pos < s.size
      · obtain ⟨g', rfl⟩ : ∃ g', gk = g' + 1 := ⟨gk - 1, by omega⟩
        have hnx : ∀ ty, (Instr.next (.pointer (some ⟨w.heap.size, 0, none⟩)) true ty).run Tryd.prog wr = _ := fun ty => Lib.run_next_any_at wr w.heap.size s pos ty hit hps
        have hp1 : wrap64 ((pos : Int) + 1) = ((pos + 1 : Nat) : Int) := w64n (k := 1) (by omega)
        have hp3 : wrap64 ((pos : Int) + 3) = ((pos + 3 : Nat) : Int) := w64n (k := 3) (by omega)
        have hwd := Lib.width_pos s pos
        have hle := Lib.rune_le s pos
        have hca := chars_at hps
        have hdec := Lib.decodeL_drop s pos
        have hsz2 := Lib.decodeL_le _ (drop_ne hps)
        rw [hdec, List.length_drop, tl_size] at hsz2
        have herr := dec_err hps
        obtain ⟨R, hR⟩ : ∃ R, (Utf8.decode s pos).1 = R := ⟨_, rfl⟩
        obtain ⟨K, hK⟩ : ∃ K, (Utf8.decode s pos).2 = K := ⟨_, rfl⟩
        have hK2 : Utf8.decode s pos = (R, K) := Prod.ext hR hK
        rw [hR, hK] at hnx herr
        rw [hK] at hwd hca hsz2
        rw [hR] at hle
        have hit2 := Lib.iterAt_heap wr w.heap.size s pos (pos + K) hit
        have hbw2 := Lib.below_iterAt hbw (k := w.heap.size) (Nat.le_refl _) s (pos + K)
        have HO2 : Kd.R k52 52 (wr.iterAt w.heap.size s (pos + K)) w.heap.size (fun k => k ≠ w.heap.size) u3 (L.map un) := Kd.R_step HO (fun k ho _ => Lib.iterAt_other wr w.heap.size k s (pos + K) ho)
        have hltW : w.heap.size < (wr.iterAt w.heap.size s (pos + K)).heap.size := (Array.getElem?_eq_some_iff.1 hit2).1
        obtain ⟨W, hWd⟩ : ∃ W, wr.iterAt w.heap.size s (pos + K) = W := ⟨_, rfl⟩
        rw [hWd] at hnx hit2 hbw2 HO2 hltW
        have hH1 := hH.out
        rw [hca] at hH1
        have bad : R = 65533 → K = 1 → hd ((tl s).drop pos) = .b (s.get! pos) := by
          intro h1 h2
          have hb : isBad ((tl s).drop pos) := by unfold isBad; rw [hdec, hK2]; exact ⟨h1, h2⟩
          unfold hd
          rw [if_pos hb, getD_tl hps]
        have good : ¬ (R = 65533 ∧ K = 1) → hd ((tl s).drop pos) = .g R ∧ Pt.Good R := by
          intro h1
          have hb : ¬ isBad ((tl s).drop pos) := by unfold isBad; rw [hdec, hK2]; exact h1
          have e : hd ((tl s).drop pos) = .g R := by unfold hd; rw [if_neg hb, hdec, hR]
          exact ⟨e, Pt.hd_good e⟩
        by_cases hr : R = 65533
        · have c1 : ((R : Int) == 65533) = true := by rw [beq_iff_eq]; omega
          have hdf : pos + 3 ≤ s.size → (s.extract pos (pos + 3)).toList = [239, 191, 189] → K = 3 := fun h1 h2 => by have := dec_fffd h1 h2; rw [hK2] at this; exact (Prod.mk.inj this).2
          by_cases hn : s.size < pos + 3
          · have c2 : (((pos + 3 : Nat) : Int) > (s.size : Int)) = True := by simp; omega
            have hk1 : K = 1 := by
              rcases herr hr with h | h
              · exact h
              · omega
            have he := bad hr hk1
            rw [he] at hH1
            have hcv := dec_one hps
            clear bad good herr hca hdec hH hsz2 hK2 hdf
            go_wp2_with (first | ((with_reducible refine gate_builtin (b := .append) (xs := #[.tmp 29, .tmp 36]) rfl ?_); at_builtin; refine Kd.R_append k52 (w0 := w) w.heap.size rfl (.tmp 29) (.tmp 36) 47 52 (.agg #[(.string ⟨#[]⟩), (.int .i32 0), (.bool false)]) 24 rfl Tryd.underlying47 info52 rfl (by decide) (by omega) u3 (L.map un) (un (.b (s.get! pos))) [.string ⟨#[s.get! pos]⟩, .int .i32 (-1), .bool true] (fun k => k ≠ w.heap.size) (fun _ => False) rfl rfl ?aP (fun _ hk => hk.elim) (fun k hk => by omega) ?aO ?aB ?aS ?aL ?_; (case aP => exact k52_mkM _ _ _ _); (case aO => exact HO2); (case aB => exact hbw2); (case aS => exact below_size hbw2); (case aL => rw [List.length_map]; omega); intro v1 w1 HO3 hb3 hg3 hat3))
            go_roundg g'
            case measure => omega
            case rel => exact ⟨pos + K, L ++ [.b (s.get! pos)], by rw [hg3.block _ hltW (fun e => HO2.1 _ e.symm rfl)]; exact hit2, hb3, by rw [List.map_append]; exact HO3, by rw [List.length_append, List.length_singleton]; omega, Lib.hid (by rw [List.append_assoc]; exact hH1), by omega⟩
          · have c2 : (((pos + 3 : Nat) : Int) > (s.size : Int)) = False := by simp; omega
            have c3 : (pos : Int) ≤ ((pos + 3 : Nat) : Int) := by omega
            have c4 : ((pos + 3 : Nat) : Int) ≤ (s.size : Int) := by omega
            by_cases hx : (s.extract pos (pos + 3)).toList = [239, 191, 189]
            · have hk3 := hdf (by omega) hx
              have hxb : ((s.extract pos (pos + 3)).toList == [239, 191, 189]) = true := beq_iff_eq.2 hx
              obtain ⟨he, hg⟩ := good (fun e => by omega)
              rw [he] at hH1
              subst hr
              have hcv : Utf8.encode 65533 = strB (Lib.encodeRune 65533) := encode_is hg
              have hun : un (.g 65533) = ⟨strB (Lib.encodeRune 65533), 65533, false⟩ := rfl
              obtain ⟨B, hB⟩ : ∃ B, strB (Lib.encodeRune 65533) = B := ⟨_, rfl⟩
              rw [hB] at hcv hun
              have hnx2 : ∀ ty, (Instr.next (.pointer (some ⟨w.heap.size, 0, none⟩)) true ty).run Tryd.prog wr = .ok (.tuple #[.bool true, .int .i64 (pos : Int), .int .i32 65533]) W := hnx
              clear bad good herr hca hdec hH hsz2 hK2 hdf hk3 hx hB hg c1 hnx he hR
              go_wp2_with (first | ((with_reducible refine gate_builtin (b := .append) (xs := #[.tmp 38, .tmp 43]) rfl ?_); at_builtin; refine Kd.R_append k52 (w0 := w) w.heap.size rfl (.tmp 38) (.tmp 43) 47 52 (.agg #[(.string ⟨#[]⟩), (.int .i32 0), (.bool false)]) 24 rfl Tryd.underlying47 info52 rfl (by decide) (by omega) u3 (L.map un) ⟨B, 65533, false⟩ [.string B, .int .i32 65533, .bool false] (fun k => k ≠ w.heap.size) (fun _ => False) rfl rfl ?aP (fun _ hk => hk.elim) (fun k hk => by omega) ?aO ?aB ?aS ?aL ?_; (case aP => exact k52_mkM _ _ _ _); (case aO => exact HO2); (case aB => exact hbw2); (case aS => exact below_size hbw2); (case aL => rw [List.length_map]; omega); intro v1 w1 HO3 hb3 hg3 hat3))
              go_roundg g'
              case measure => omega
              case rel => exact ⟨pos + K, L ++ [.g 65533], by rw [hg3.block _ hltW (fun e => HO2.1 _ e.symm rfl)]; exact hit2, hb3, by rw [List.map_append, List.map_cons, List.map_nil, hun]; exact HO3, by rw [List.length_append, List.length_singleton]; omega, Lib.hid (by rw [List.append_assoc]; exact hH1), by omega⟩
            · have hk1 : K = 1 := by
                rcases herr hr with h | h
                · exact h
                · exfalso
                  apply hx
                  rw [Sy.sub3_eq (by omega)]
                  have e : ∀ (u : UInt8) (n : Nat), u.toNat = n → n < 256 → u = UInt8.ofNat n := fun u n h _ => by rw [← h]; exact (UInt8.ofNat_toNat).symm
                  rw [e _ _ h.2.2.1 (by decide), e _ _ h.2.2.2.1 (by decide), e _ _ h.2.2.2.2 (by decide)]
                  rfl
              have hxb : ((s.extract pos (pos + 3)).toList == [239, 191, 189]) = false := beq_eq_false_iff_ne.2 hx
              have he := bad hr hk1
              rw [he] at hH1
              have hcv := dec_one hps
              clear bad good herr hca hdec hH hsz2 hK2 hdf
              go_wp2_with (first | ((with_reducible refine gate_builtin (b := .append) (xs := #[.tmp 29, .tmp 36]) rfl ?_); at_builtin; refine Kd.R_append k52 (w0 := w) w.heap.size rfl (.tmp 29) (.tmp 36) 47 52 (.agg #[(.string ⟨#[]⟩), (.int .i32 0), (.bool false)]) 24 rfl Tryd.underlying47 info52 rfl (by decide) (by omega) u3 (L.map un) (un (.b (s.get! pos))) [.string ⟨#[s.get! pos]⟩, .int .i32 (-1), .bool true] (fun k => k ≠ w.heap.size) (fun _ => False) rfl rfl ?aP (fun _ hk => hk.elim) (fun k hk => by omega) ?aO ?aB ?aS ?aL ?_; (case aP => exact k52_mkM _ _ _ _); (case aO => exact HO2); (case aB => exact hbw2); (case aS => exact below_size hbw2); (case aL => rw [List.length_map]; omega); intro v1 w1 HO3 hb3 hg3 hat3))
              go_roundg g'
              case measure => omega
              case rel => exact ⟨pos + K, L ++ [.b (s.get! pos)], by rw [hg3.block _ hltW (fun e => HO2.1 _ e.symm rfl)]; exact hit2, hb3, by rw [List.map_append]; exact HO3, by rw [List.length_append, List.length_singleton]; omega, Lib.hid (by rw [List.append_assoc]; exact hH1), by omega⟩
        · have c1 : ((R : Int) == 65533) = false := by rw [beq_eq_false_iff_ne]; omega
          obtain ⟨he, hg⟩ := good (fun e => hr e.1)
          rw [he] at hH1
          have hcv := encode_is hg
          clear bad good herr hca hdec hH hsz2 hK2
          go_wp2_with (first | ((with_reducible refine gate_builtin (b := .append) (xs := #[.tmp 38, .tmp 43]) rfl ?_); at_builtin; refine Kd.R_append k52 (w0 := w) w.heap.size rfl (.tmp 38) (.tmp 43) 47 52 (.agg #[(.string ⟨#[]⟩), (.int .i32 0), (.bool false)]) 24 rfl Tryd.underlying47 info52 rfl (by decide) (by omega) u3 (L.map un) (un (.g R)) [.string (strB (Lib.encodeRune (R : Int))), .int .i32 (R : Int), .bool false] (fun k => k ≠ w.heap.size) (fun _ => False) rfl rfl ?aP (fun _ hk => hk.elim) (fun k hk => by omega) ?aO ?aB ?aS ?aL ?_; (case aP => exact k52_mkM _ _ _ _); (case aO => exact HO2); (case aB => exact hbw2); (case aS => exact below_size hbw2); (case aL => rw [List.length_map]; omega); intro v1 w1 HO3 hb3 hg3 hat3))
          go_roundg g'
          case measure => omega
          case rel => exact ⟨pos + K, L ++ [.g R], by rw [hg3.block _ hltW (fun e => HO2.1 _ e.symm rfl)]; exact hit2, hb3, by rw [List.map_append]; exact HO3, by rw [List.length_append, List.length_singleton]; omega, Lib.hid (by rw [List.append_assoc]; exact hH1), by omega⟩
      · have hnx : ∀ ty, (Instr.next (.pointer (some ⟨w.heap.size, 0, none⟩)) true ty).run Tryd.prog wr = _ := fun ty => Lib.run_next_end_at wr w.heap.size s pos ty hit hps
        have he : L = chars (tl s) := by
          have := hH.out
          rw [drop_end hps] at this
          rw [← this]
          exact (List.append_nil _).symm
        rw [he] at HO
        go_wp2
        go_ret
        exact ⟨_, rfl, Kd.R_mono HO (fun _ _ => trivial), hbw⟩
  · cases h
end Go.Proofs.YtonmnpmklkbioaaDoor.Given
/- The small functions of spec: what they say in plain words. -/
namespace Go.Proofs.YtonmnpmklkbioaaDoor.Given
open Go.RowKit Go.Proofs.YtonmnpmklkbioaaDoorW.PrintWords Go.Proofs.YtonmnpmklkbioaaDoorW.PrintLast Go.Proofs.YtonmnpmklkbioaaDoorW.PrintMore Go.Proofs.YtonmnpmklkbioaaDoor.PN
open Go.Proofs.YtonmnpmklkbioaaDoor.Pt (Ch Tk flat chars chs isBad sgn sof signed betw leftC rightC encC dotC hexc isC run Pr hd qt)
open Go.Proofs.YtonmnpmklkbioaaDoor.Sy (tl strB tl_size drop_end drop_ne chars_at getD_tl strB_tl tl_strB dec_err dec_fffd dec_one tkm tkm_ok hasB bitsOf bitsOf_big)
set_option linter.unusedVariables false
set_option linter.unusedSimpArgs false
theorem hasB_bv (m b : Int) : hasB m b = !((BitVec.ofInt 64 m &&& BitVec.ofInt 64 b) == 0#64) := by
  unfold hasB
  have e : Go.bits .and .u64 m b = ((BitVec.ofInt 64 m &&& BitVec.ofInt 64 b).toNat : Int) := by
    show IntKind.u64.wrap ((BitVec.ofInt 64 m &&& BitVec.ofInt 64 b).toNat : Int) = _
    have h := (BitVec.ofInt 64 m &&& BitVec.ofInt 64 b).isLt
    have e : ((BitVec.ofInt 64 m &&& BitVec.ofInt 64 b).toNat : Int) % 2 ^ 64 = ((BitVec.ofInt 64 m &&& BitVec.ofInt 64 b).toNat : Int) := Int.emod_eq_of_lt (by omega) (by omega)
    simp only [IntKind.wrap, IntKind.bits, IntKind.signed, e]
    rfl
  rw [e]
  obtain ⟨x, hx⟩ : ∃ x, (BitVec.ofInt 64 m &&& BitVec.ofInt 64 b) = x := ⟨_, rfl⟩
  rw [hx]
  rw [Bool.eq_iff_iff]
  simp only [bne_iff_ne, ne_eq, Bool.not_eq_true', beq_eq_false_iff_ne]
  constructor
  · intro h e
    apply h
    rw [e]
    rfl
  · intro h e
    apply h
    apply BitVec.eq_of_toNat_eq
    have : x.toNat = 0 := by omega
    rw [this]
    rfl
theorem has_two (m : Int) : hasB m 81920 = (hasB m 16384 || hasB m 65536) := by
  rw [hasB_bv, hasB_bv, hasB_bv, show BitVec.ofInt 64 81920 = BitVec.ofInt 64 16384 ||| BitVec.ofInt 64 65536 by decide]
  obtain ⟨x, hx⟩ : ∃ x, BitVec.ofInt 64 m = x := ⟨_, rfl⟩
  rw [hx, Bool.eq_iff_iff]
  simp only [Bool.or_eq_true, Bool.not_eq_true', beq_eq_false_iff_ne, ne_eq]
  constructor
  · intro h
    by_cases h1 : x &&& BitVec.ofInt 64 16384 = 0#64
    · right
      intro h2
      apply h
      rw [BitVec.and_or_distrib_left, h1, h2]
      rfl
    · exact .inl h1
  · intro h e
    rw [BitVec.and_or_distrib_left] at e
    have e1 : x &&& BitVec.ofInt 64 16384 = 0#64 := by
      apply BitVec.eq_of_getLsbD_eq
      intro i hi
      have := congrArg (fun y => BitVec.getLsbD y i) e
      simp only [BitVec.getLsbD_or, BitVec.getLsbD_zero, Bool.or_eq_false_iff] at this
      rw [this.1, BitVec.getLsbD_zero]
    have e2 : x &&& BitVec.ofInt 64 65536 = 0#64 := by
      apply BitVec.eq_of_getLsbD_eq
      intro i hi
      have := congrArg (fun y => BitVec.getLsbD y i) e
      simp only [BitVec.getLsbD_or, BitVec.getLsbD_zero, Bool.or_eq_false_iff] at this
      rw [this.2, BitVec.getLsbD_zero]
    rcases h with h | h
    · exact h e1
    · exact h e2
theorem has_zero (m : Int) : hasB m 0 = false := by
  rw [hasB_bv, show BitVec.ofInt 64 0 = 0#64 by decide, BitVec.and_zero]
  rfl
theorem beq_eq {a b : Nat} (h : a = b) : Nat.beq a b = true := by rw [h, Nat.beq_refl]
theorem beq_ne {a b : Nat} (h : a ≠ b) : Nat.beq a b = false := by
  cases hb : Nat.beq a b with
  | false => rfl
  | true => exact absurd (by simpa using hb) h
theorem takesRight_is (m : Int) (c : Nat) : spec_TakesRight.f m (c : Int) = some ((tkm m).r c) := by
  show _ = some ((Nat.beq c 32 && hasB m 2097152) || (Nat.beq c 46 && hasB m 4194304) || ((Nat.beq c 9 || Nat.beq c 10 || Nat.beq c 11 || Nat.beq c 13) && hasB m 8388608))
  unfold spec_TakesRight.f hasB
  generalize (Go.bits .and .u64 m 2097152 != 0) = x
  generalize (Go.bits .and .u64 m 4194304 != 0) = y
  generalize (Go.bits .and .u64 m 8388608 != 0) = z
  by_cases h1 : c = 32
  · subst h1; cases x <;> cases y <;> cases z <;> rfl
  by_cases h2 : c = 46
  · subst h2; cases x <;> cases y <;> cases z <;> rfl
  by_cases h3 : c = 13
  · subst h3; cases x <;> cases y <;> cases z <;> rfl
  by_cases h4 : c = 10
  · subst h4; cases x <;> cases y <;> cases z <;> rfl
  by_cases h5 : c = 9
  · subst h5; cases x <;> cases y <;> cases z <;> rfl
  by_cases h6 : c = 11
  · subst h6; cases x <;> cases y <;> cases z <;> rfl
  rw [if_neg (by omega), if_neg (by omega), if_neg (by omega), if_neg (by omega), if_neg (by omega), if_neg (by omega), beq_ne h1, beq_ne h2, beq_ne h3, beq_ne h4, beq_ne h5, beq_ne h6]
  rfl
theorem takesLeft_is (m : Int) (c : Nat) : spec_TakesLeft.f m (c : Int) = some ((tkm m).l c) := by
  show _ = some ((Nat.beq c 32 && hasB m 131072) || (Nat.beq c 46 && hasB m 262144) || (Nat.beq c 126 && hasB m 524288) || ((Nat.beq c 9 || Nat.beq c 10 || Nat.beq c 11 || Nat.beq c 13) && hasB m 1048576))
  unfold spec_TakesLeft.f hasB
  generalize (Go.bits .and .u64 m 131072 != 0) = x
  generalize (Go.bits .and .u64 m 262144 != 0) = y
  generalize (Go.bits .and .u64 m 524288 != 0) = u
  generalize (Go.bits .and .u64 m 1048576 != 0) = z
  by_cases h1 : c = 32
  · subst h1; cases x <;> cases y <;> cases u <;> cases z <;> rfl
  by_cases h2 : c = 46
  · subst h2; cases x <;> cases y <;> cases u <;> cases z <;> rfl
  by_cases h3 : c = 13
  · subst h3; cases x <;> cases y <;> cases u <;> cases z <;> rfl
  by_cases h4 : c = 10
  · subst h4; cases x <;> cases y <;> cases u <;> cases z <;> rfl
  by_cases h5 : c = 9
  · subst h5; cases x <;> cases y <;> cases u <;> cases z <;> rfl
  by_cases h6 : c = 11
  · subst h6; cases x <;> cases y <;> cases u <;> cases z <;> rfl
  by_cases h7 : c = 126
  · subst h7; cases x <;> cases y <;> cases u <;> cases z <;> rfl
  rw [if_neg (by omega), if_neg (by omega), if_neg (by omega), if_neg (by omega), if_neg (by omega), if_neg (by omega), if_neg (by omega), beq_ne h1, beq_ne h2, beq_ne h3, beq_ne h4, beq_ne h5, beq_ne h6, beq_ne h7]
  rfl
theorem leO_up {α : Type} {f : Nat → Option α} (h : ∀ k, LeO (f k) (f (k + 1))) {r : α} {n : Nat} (h0 : f n = some r) : ∀ k, f (k + n) = some r
  | 0 => by rw [Nat.zero_add]; exact h0
  | k + 1 => by
    have := h (k + n) r (leO_up h h0 k)
    rwa [show k + 1 + n = k + n + 1 by omega]
/-- The bits of a character, as one number. -/
def bitN (c : Nat) : Int := match bitsOf c with
  | [] => 0
  | [b] => b
  | _ => 81920
set_option maxRecDepth 100000 in
theorem bit_tab : ((List.range 128).all fun n => n == 0 || (decide (spec_bit.f 3 ((n : Nat) : Int) = some (bitN n)) && (decide (bitsOf n = []) || decide (bitsOf n = [bitN n]) || decide (bitsOf n = [16384, 65536] ∧ bitN n = 81920)))) = true := by kernel_rfl
theorem bitN_is (m : Int) {c : Nat} (hc : 0 < c) : hasB m (bitN c) = (bitsOf c).any (hasB m) := by
  by_cases h : c < 128
  · have := List.all_eq_true.1 bit_tab c (List.mem_range.2 h)
    simp only [Bool.or_eq_true, Bool.and_eq_true, decide_eq_true_eq, beq_iff_eq] at this
    rcases this with h0 | ⟨_, (h1 | h1) | h1⟩
    · omega
    · unfold bitN
      rw [h1]
      exact has_zero m
    · rw [h1]
      simp only [List.any_cons, List.any_nil, Bool.or_false]
    · rw [h1.1, h1.2, has_two]
      simp
  · unfold bitN
    rw [bitsOf_big (by omega)]
    exact has_zero m
theorem bit_is (k : Nat) {c : Nat} (hc : 0 < c) : spec_bit.f (k + 3) (c : Int) = some (bitN c) := by
  refine leO_up (f := fun k => spec_bit.f k (c : Int)) (fun k => spec_bit.mono _ k) ?_ k
  by_cases h : c < 128
  · have := List.all_eq_true.1 bit_tab c (List.mem_range.2 h)
    simp only [Bool.or_eq_true, Bool.and_eq_true, decide_eq_true_eq, beq_iff_eq] at this
    rcases this with h0 | ⟨h1, _⟩
    · omega
    · exact h1
  · unfold bitN
    rw [bitsOf_big (by omega)]
    have ne : ∀ n : Nat, n < 128 → ¬ ((c : Int) = (n : Int)) := fun n hn e => by omega
    have nb : ∀ n : Nat, n < 128 → ((c : Int) == (n : Int)) = false := fun n hn => by rw [beq_eq_false_iff_ne]; exact ne n hn
    have b60 := nb 60 (by omega)
    have b62 := nb 62 (by omega)
    have b91 := nb 91 (by omega)
    have b93 := nb 93 (by omega)
    have b13 := nb 13 (by omega)
    have b10 := nb 10 (by omega)
    simp only [Int.cast_ofNat_Int] at b60 b62 b91 b93 b13 b10
    simp only [spec_bit.f, spec_bit.j0, spec_bit.j1, spec_bit.j2]
    rw [if_neg (by omega), if_neg (by omega), b62]
    simp only [Bool.false_eq_true, if_false]
    repeat rw [if_neg (by omega)]
    rw [b93]
    simp only [Bool.false_eq_true, if_false]
    repeat rw [if_neg (by omega)]
    rw [b10]
    simp only [Bool.false_eq_true, if_false]
    rw [if_pos (by omega), if_neg (by omega)]
theorem takes_is (m : Int) (k c : Nat) : spec_Takes.f (k + 3) m (c : Int) = some ((tkm m).t c) := by
  unfold spec_Takes.f
  show _ = some (Nat.beq c 0 || (bitsOf c).any (hasB m))
  by_cases h : c = 0
  · subst h; rfl
  · rw [if_neg (by omega), if_pos (by omega), bit_is k (by omega), beq_ne h, Bool.false_or, ← bitN_is m (by omega)]
    rfl
theorem takes_neg (m : Int) (k : Nat) : spec_Takes.f k m (-1) = some false := rfl
end Go.Proofs.YtonmnpmklkbioaaDoor.Given
/- spec's closures, signed, between. -/
namespace Go.Proofs.YtonmnpmklkbioaaDoor.Given
open Go.RowKit Go.Proofs.YtonmnpmklkbioaaDoorW.PrintWords Go.Proofs.YtonmnpmklkbioaaDoorW.PrintLast Go.Proofs.YtonmnpmklkbioaaDoorW.PrintMore Go.Proofs.YtonmnpmklkbioaaDoor.PN
open Go.Proofs.YtonmnpmklkbioaaDoor.Pt (Ch Tk flat chars chs isBad sgn sof signed betw leftC rightC encC dotC hexc isC run Pr hd qt)
open Go.Proofs.YtonmnpmklkbioaaDoor.Sy (tl strB tl_size drop_end drop_ne chars_at getD_tl strB_tl tl_strB dec_err dec_fffd dec_one tkm tkm_ok hasB bitsOf bitsOf_big)
set_option linter.unusedVariables false
set_option linter.unusedSimpArgs false
end Go.Proofs.YtonmnpmklkbioaaDoor.Given
/- spec.between. -/
namespace Go.Proofs.YtonmnpmklkbioaaDoor.Given
open Go.RowKit Go.Proofs.YtonmnpmklkbioaaDoorW.PrintWords Go.Proofs.YtonmnpmklkbioaaDoorW.PrintLast Go.Proofs.YtonmnpmklkbioaaDoorW.PrintMore Go.Proofs.YtonmnpmklkbioaaDoor.PN
open Go.Proofs.YtonmnpmklkbioaaDoor.Pt (Ch Tk flat chars chs isBad sgn sof signed betw leftC rightC encC dotC hexc isC run Pr hd qt)
open Go.Proofs.YtonmnpmklkbioaaDoor.Sy (tl strB tl_size drop_end drop_ne chars_at getD_tl strB_tl tl_strB dec_err dec_fffd dec_one tkm tkm_ok hasB bitsOf bitsOf_big)
set_option linter.unusedVariables false
set_option linter.unusedSimpArgs false
end Go.Proofs.YtonmnpmklkbioaaDoor.Given
/- Bytes made of a text, written on behind: a row whose mark stands past its end. -/
namespace Go.Proofs.YtonmnpmklkbioaaDoor.Given
open Go.RowKit Go.Lib
set_option linter.unusedVariables false
set_option linter.unusedSimpArgs false
/-- The slice v has these bytes in a row of the call's own; what is marked of it stands past its end. -/
def OwnG (w : World) (base : Nat) (v : Value) (xs : List Value) : Prop :=
  ∃ g cap cur fz, v = .slice (some ⟨g, 0, none⟩) xs.length cap ∧ base ≤ g ∧ w.heap[g]? = some (.cells cur 5 fz) ∧ (fz.2 = 0 ∨ cap ≤ fz.1) ∧ xs.length ≤ cap ∧ cap ≤ maxLen ∧ cur.size = cap ∧ cur.toList.take xs.length = xs
theorem OwnG.move {w w' : World} {base : Nat} {v : Value} {xs : List Value} (h : OwnG w base v xs) (hm : ∀ k, v.ownBlock = some k → w'.heap[k]? = w.heap[k]?) : OwnG w' base v xs := by
  obtain ⟨g, cap, cur, fz, rfl, h1, h2, h3⟩ := h
  exact ⟨g, cap, cur, fz, rfl, h1, (hm g rfl).trans h2, h3⟩
theorem OwnG.lt {w : World} {base : Nat} {v : Value} {xs : List Value} (h : OwnG w base v xs) : ∀ k, v.ownBlock = some k → base ≤ k ∧ k < w.heap.size := by
  obtain ⟨g, cap, cur, fz, rfl, h1, h2, h3⟩ := h
  intro k hk
  simp only [Value.ownBlock, Option.some.injEq] at hk
  subst hk
  exact ⟨h1, (Array.getElem?_eq_some_iff.1 h2).1⟩
theorem OwnG.below {w w' : World} {base : Nat} {v : Value} {xs : List Value} (h : OwnG w base v xs) (hb : Below w.heap.size w w') : OwnG w' base v xs := h.move fun k hk => hb.block k (h.lt k hk).2
theorem infoG5 : (Tryd.prog.info? 5).map (fun i => (i.zero, i.size, i.bytes)) = some (some (.int .u8 0), 1, 1) := by kernel_rfl
/-- .. and back. -/
theorem textG {w : World} {base : Nat} {v : Value} {l : List UInt8} (h : OwnG w base v (l.map fun b => Value.int .u8 (b.toNat : Int))) : (convert 23 9 v).run Tryd.prog w = .ok (.string ⟨l.toArray⟩) w := by
  obtain ⟨g, cap, cur, fz, rfl, h1, h2, h3, h4, h5, h6, h7⟩ := h
  have hr := run_convert_bytes_arg w 23 5 Tryd.underlying23 Tryd.underlying5 g 0 l.length cap (l.map fun b => (b.toNat : Int)) (List.length_map _) (fun i hi => ?_) 9 Tryd.underlying9
  · have e : strOfNums (l.map fun b => (b.toNat : Int)) = ⟨l.toArray⟩ := ?_
    · rw [List.length_map, hr, e]
    unfold strOfNums
    rw [List.map_map]
    have : (fun n : Int => UInt8.ofNat n.toNat) ∘ (fun b : UInt8 => (b.toNat : Int)) = id := by
      funext b
      simp
    rw [this, List.map_id]
  · rw [Nat.zero_add, cell_of_row w g i cur 5 fz h2]
    have hx : (cur.toList.take (l.map fun b => Value.int .u8 (b.toNat : Int)).length)[i]? = (l.map fun b => Value.int .u8 (b.toNat : Int))[i]? := by rw [h7]
    rw [List.length_map, List.getElem?_take, if_pos hi] at hx
    rw [← Array.getElem?_toList, hx]
    simp [List.getD, hi]
end Go.Proofs.YtonmnpmklkbioaaDoor.Given
/- spec.NameEncode: what it gives. -/
namespace Go.Proofs.YtonmnpmklkbioaaDoor.Given
open Go.RowKit Go.Proofs.YtonmnpmklkbioaaDoorW.PrintWords Go.Proofs.YtonmnpmklkbioaaDoorW.PrintLast Go.Proofs.YtonmnpmklkbioaaDoorW.PrintMore Go.Proofs.YtonmnpmklkbioaaDoor.PN
open Go.Proofs.YtonmnpmklkbioaaDoor.Pt (Ch Tk flat chars chs isBad sgn sof signed betw leftC rightC encC dotC hexc isC run Pr hd qt)
open Go.Proofs.YtonmnpmklkbioaaDoor.Sy (tl strB tl_size drop_end drop_ne chars_at getD_tl strB_tl tl_strB dec_err dec_fffd dec_one tkm tkm_ok hasB bitsOf bitsOf_big dotO dotO_is)
set_option linter.unusedVariables false
set_option linter.unusedSimpArgs false
theorem chars_len : ∀ l : List UInt8, (chars l).length ≤ l.length := by
  have key : ∀ (n : Nat) (l : List UInt8), l.length ≤ n → (chars l).length ≤ l.length := by
    intro n
    induction n with
    | zero =>
      intro l h
      have : l = [] := List.length_eq_zero_iff.1 (by omega)
      subst this
      exact Nat.le_refl _
    | succ n ih =>
      intro l h
      by_cases hl : l = []
      · subst hl; exact Nat.le_refl _
      · have hp : 0 < l.length := List.length_pos_iff.2 hl
        have hw := Lib.decodeL_width l
        have := ih (l.drop (Lib.decodeL l).2) (by rw [List.length_drop]; omega)
        rw [Pt.chars_cons hl, List.length_cons]
        rw [List.length_drop] at this
        omega
  exact fun l => key _ l (Nat.le_refl _)
theorem flat_len : ∀ L : List Ch, (flat L).length ≤ 4 * L.length
  | [] => Nat.le_refl _
  | c :: L => by
    have ih := flat_len L
    have h : c.by.length ≤ 4 := by
      cases c with
      | b x => show 1 ≤ 4; omega
      | g r => exact Sy.rune_le _
    rw [Pt.flat_cons, List.length_append, List.length_cons]
    omega
/-- What a mask writes of a name. -/
def encN (m : Int) (s : ByteArray) : ByteArray := if m = 1 then s else strB (flat (encC (tkm m) (chars (tl s))))
def spec_NameEncode.f (m : Int) (s : ByteArray) : Option ByteArray := if s.size ≤ 1000000000 then some (encN m s) else none
end Go.Proofs.YtonmnpmklkbioaaDoor.Given
