/- 6 texts of this claim, one behind the other. -/
import Derived.Test.YtonmnpmklkbioaaDoorGa
import Derived.Test.YtonmnpmklkbioaaDoorGf
import Derived.Shelf.GgClosure.StringsIndexFunc
import Derived.Lib.FrozenHead
/- spec.Units: the characters of a name, one unit each. -/
namespace Go.Proofs.YtonmnpmklkbioaaDoor.Given
open Go.RowKit Go.Proofs.YtonmnpmklkbioaaDoorW.PrintWords Go.Proofs.YtonmnpmklkbioaaDoorW.PrintLast Go.Proofs.YtonmnpmklkbioaaDoorW.PrintMore Go.Proofs.YtonmnpmklkbioaaDoor.PN
open Go.Proofs.YtonmnpmklkbioaaDoor.Pt (Ch Tk flat chars chs isBad sgn sof signed betw leftC rightC encC dotC hexc isC run Pr hd qt)
open Go.Proofs.YtonmnpmklkbioaaDoor.Sy (tl strB tl_size drop_end drop_ne chars_at getD_tl strB_tl tl_strB dec_err dec_fffd dec_one)
set_option linter.unusedVariables false
set_option linter.unusedSimpArgs false
theorem w64n {p k : Nat} (h : p + k ≤ 9223372036854775807) : wrap64 ((p : Int) + (k : Int)) = ((p + k : Nat) : Int) := by unfold wrap64; omega
theorem info52 : (Tryd.prog.info? 52).map (fun i => (i.zero, i.size, i.bytes)) = some (some (.agg #[(.string ⟨#[]⟩), (.int .i32 0), (.bool false)]), 3, 24) := by kernel_rfl
/-- A character as a unit. -/
def un : Ch → S52
  | .g r => ⟨strB (Lib.encodeRune (r : Int)), (r : Int), false⟩
  | .b x => ⟨⟨#[x]⟩, -1, true⟩
def spec_Units.f (s : ByteArray) : Option (List S52) := if s.size ≤ 1000000000000 then some ((chars (tl s)).map un) else none
/-- The model's own writing of a rune. -/
theorem encode_is {r : Nat} (h : Pt.Good r) : Utf8.encode (r : Int) = strB (Lib.encodeRune (r : Int)) := by
  have hv : Utf8.valid (r : Int) = true := by
    unfold Utf8.valid
    unfold Pt.Good at h
    simp only [Bool.or_eq_true, Bool.and_eq_true, decide_eq_true_eq]
    omega
  have hb : ∀ (z : Int) (n : Nat), z = (n : Int) → z.toNat.toUInt8 = UInt8.ofNat n := by
    intro z n h
    subst h
    rfl
  unfold Utf8.encode
  simp only [hv, if_true, Int.toNat_natCast]
  unfold strB Lib.encodeRune
  unfold Pt.Good at h
  rcases (show r ≤ 127 ∨ (128 ≤ r ∧ r ≤ 2047) ∨ (2048 ≤ r ∧ r < 65536) ∨ (65536 ≤ r ∧ r ≤ 1114111) by omega) with h1 | h1 | h1 | h1
  · rw [Lib.encodeRuneZ_one (by omega) (by omega), if_pos (by omega)]
    rfl
  · rw [Lib.encodeRuneZ_two (by omega) (by omega), if_neg (by omega), if_pos (by omega)]
    simp only [List.map_cons, List.map_nil]
    rw [hb (192 + (r : Int) / 64) (192 + r / 64) (by omega), hb (128 + (r : Int) % 64) (128 + r % 64) (by omega)]
  · rw [Lib.encodeRuneZ_three (by omega), if_neg (by omega), if_neg (by omega), if_pos (by omega)]
    simp only [List.map_cons, List.map_nil]
    rw [hb (224 + (r : Int) / 4096) (224 + r / 4096) (by omega), hb (128 + (r : Int) / 64 % 64) (128 + r / 64 % 64) (by omega), hb (128 + (r : Int) % 64) (128 + r % 64) (by omega)]
  · rw [Lib.encodeRuneZ_four (by omega) (by omega), if_neg (by omega), if_neg (by omega), if_neg (by omega)]
    simp only [List.map_cons, List.map_nil]
    rw [hb (240 + (r : Int) / 262144) (240 + r / 262144) (by omega), hb (128 + (r : Int) / 4096 % 64) (128 + r / 4096 % 64) (by omega), hb (128 + (r : Int) / 64 % 64) (128 + r / 64 % 64) (by omega), hb (128 + (r : Int) % 64) (128 + r % 64) (by omega)]
set_option maxHeartbeats 4000000 in
set_option maxRecDepth 100000 in
theorem spec_Units.calls (s : ByteArray) (r : List S52) (w : World) (h : spec_Units.f s = some r) :
    Calls Tryd.prog 37 #[.string s] w fun e w' => ∃ v0_ : Value, e = .returned (v0_) ∧ Kd.R k52 52 w' w.heap.size (fun _ => True) v0_ r ∧ Below w.heap.size w w' := by
  have hu52 := Tryd.underlying52
  unfold spec_Units.f at h
  split at h
  · rename_i hs
    have h := Option.some.inj h
    subst h
    go_enter Tryd.func37, Tryd.ntmps37
    go_wp2
    go_loopg [3] s.size (fun gf s3 wx => ∃ (pos : Nat) (L : List Ch), wx.heap[w.heap.size]? = some (.stringIter s pos) ∧ Below w.heap.size w wx ∧ Kd.R k52 52 wx w.heap.size (fun k => k ≠ w.heap.size) s3 (L.map un) ∧ L.length ≤ pos ∧ Hid (L ++ chars ((tl s).drop pos) = chars (tl s)) ∧ s.size ≤ pos + gf)
    case atStart =>
      refine ⟨0, [], World.iter_heap w s 0, (Below.refl _ w).alloc (Nat.le_refl _) _, ?_, Nat.le_refl _, Lib.hid (by rw [List.drop_zero]; rfl), by omega⟩
      exact Kd.R_nil _ _ _ _ _
    case round =>
      obtain ⟨pos, L, hit, hbw, HO, hLp, hH, hfu⟩ := hrel
      by_cases hps : pos < s.size
      · obtain ⟨g', rfl⟩ : ∃ g', gk = g' + 1 := ⟨gk - 1, by omega⟩
        have hnx : ∀ ty, (Instr.next (.pointer (some ⟨w.heap.size, 0, none⟩)) true ty).run Tryd.prog wr = _ := fun ty => Lib.run_next_any_at wr w.heap.size s pos ty hit hps
        have hp1 : wrap64 ((pos : Int) + 1) = ((pos + 1 : Nat) : Int) := w64n (k := 1) (by omega)
        have hp3 : wrap64 ((pos : Int) + 3) = ((pos + 3 : Nat) : Int) := w64n (k := 3) (by omega)
        have hwd := Lib.width_pos s pos
        have hle := Lib.rune_le s pos
        have hca := chars_at hps
        have hdec := Lib.decodeL_drop s pos
        have hsz2 := Lib.decodeL_le _ (drop_ne hps)
        rw [hdec, List.length_drop, tl_size] at hsz2
        have herr := dec_err hps
        obtain ⟨R, hR⟩ : ∃ R, (Utf8.decode s pos).1 = R := ⟨_, rfl⟩
        obtain ⟨K, hK⟩ : ∃ K, (Utf8.decode s pos).2 = K := ⟨_, rfl⟩
        have hK2 : Utf8.decode s pos = (R, K) := Prod.ext hR hK
        rw [hR, hK] at hnx herr
        rw [hK] at hwd hca hsz2
        rw [hR] at hle
        have hit2 := Lib.iterAt_heap wr w.heap.size s pos (pos + K) hit
        have hbw2 := Lib.below_iterAt hbw (k := w.heap.size) (Nat.le_refl _) s (pos + K)
        have HO2 : Kd.R k52 52 (wr.iterAt w.heap.size s (pos + K)) w.heap.size (fun k => k ≠ w.heap.size) u3 (L.map un) := Kd.R_step HO (fun k ho _ => Lib.iterAt_other wr w.heap.size k s (pos + K) ho)
        have hltW : w.heap.size < (wr.iterAt w.heap.size s (pos + K)).heap.size := (Array.getElem?_eq_some_iff.1 hit2).1
        obtain ⟨W, hWd⟩ : ∃ W, wr.iterAt w.heap.size s (pos + K) = W := ⟨_, rfl⟩
        rw [hWd] at hnx hit2 hbw2 HO2 hltW
        have hH1 := hH.out
        rw [hca] at hH1
        have bad : R = 65533 → K = 1 → hd ((tl s).drop pos) = .b (s.get! pos) := by
          intro h1 h2
          have hb : isBad ((tl s).drop pos) := by unfold isBad; rw [hdec, hK2]; exact ⟨h1, h2⟩
          unfold hd
          rw [if_pos hb, getD_tl hps]
        have good : ¬ (R = 65533 ∧ K = 1) → hd ((tl s).drop pos) = .g R ∧ Pt.Good R := by
          intro h1
          have hb : ¬ isBad ((tl s).drop pos) := by unfold isBad; rw [hdec, hK2]; exact h1
          have e : hd ((tl s).drop pos) = .g R := by unfold hd; rw [if_neg hb, hdec, hR]
          exact ⟨e, Pt.hd_good e⟩
        by_cases hr : R = 65533
        · have c1 : ((R : Int) == 65533) = true := by rw [beq_iff_eq]; omega
          have hdf : pos + 3 ≤ s.size → (s.extract pos (pos + 3)).toList = [239, 191, 189] → K = 3 := fun h1 h2 => by have := dec_fffd h1 h2; rw [hK2] at this; exact (Prod.mk.inj this).2
          by_cases hn : s.size < pos + 3
          · have c2 : (((pos + 3 : Nat) : Int) > (s.size : Int)) = True := by simp; omega
            have hk1 : K = 1 := by
              rcases herr hr with h | h
              · exact h
              · omega
            have he := bad hr hk1
            rw [he] at hH1
            have hcv := dec_one hps
            clear bad good herr hca hdec hH hsz2 hK2 hdf
            go_wp2_with (first | ((with_reducible refine gate_builtin (b := .append) (xs := #[.tmp 29, .tmp 36]) rfl ?_); at_builtin; refine Kd.R_append k52 (w0 := w) w.heap.size rfl (.tmp 29) (.tmp 36) 47 52 (.agg #[(.string ⟨#[]⟩), (.int .i32 0), (.bool false)]) 24 rfl Tryd.underlying47 info52 rfl (by decide) (by omega) u3 (L.map un) (un (.b (s.get! pos))) [.string ⟨#[s.get! pos]⟩, .int .i32 (-1), .bool true] (fun k => k ≠ w.heap.size) (fun _ => False) rfl rfl ?aP (fun _ hk => hk.elim) (fun k hk => by omega) ?aO ?aB ?aS ?aL ?_; (case aP => exact k52_mkM _ _ _ _); (case aO => exact HO2); (case aB => exact hbw2); (case aS => exact below_size hbw2); (case aL => rw [List.length_map]; omega); intro v1 w1 HO3 hb3 hg3 hat3))
            go_roundg g'
            case measure => omega
            case rel => exact ⟨pos + K, L ++ [.b (s.get! pos)], by rw [hg3.block _ hltW (fun e => HO2.1 _ e.symm rfl)]; exact hit2, hb3, by rw [List.map_append]; exact HO3, by rw [List.length_append, List.length_singleton]; omega, Lib.hid (by rw [List.append_assoc]; exact hH1), by omega⟩
          · have c2 : (((pos + 3 : Nat) : Int) > (s.size : Int)) = False := by simp; omega
            have c3 : (pos : Int) ≤ ((pos + 3 : Nat) : Int) := by omega
            have c4 : ((pos + 3 : Nat) : Int) ≤ (s.size : Int) := by omega
            by_cases hx : (s.extract pos (pos + 3)).toList = [239, 191, 189]
            · have hk3 := hdf (by omega) hx
              have hxb : ((s.extract pos (pos + 3)).toList == [239, 191, 189]) = true := beq_iff_eq.2 hx
              obtain ⟨he, hg⟩ := good (fun e => by omega)
              rw [he] at hH1
              subst hr
              have hcv : Utf8.encode 65533 = strB (Lib.encodeRune 65533) := encode_is hg
              have hun : un (.g 65533) = ⟨strB (Lib.encodeRune 65533), 65533, false⟩ := rfl
              obtain ⟨B, hB⟩ : ∃ B, strB (Lib.encodeRune 65533) = B := ⟨_, rfl⟩
              rw [hB] at hcv hun
              have hnx2 : ∀ ty, (Instr.next (.pointer (some ⟨w.heap.size, 0, none⟩)) true ty).run Tryd.prog wr = .ok (.tuple #[.bool true, .int .i64 (pos : Int), .int .i32 65533]) W := hnx
              clear bad good herr hca hdec hH hsz2 hK2 hdf hk3 hx hB hg c1 hnx he hR
              go_wp2_with (first | ((with_reducible refine gate_builtin (b := .append) (xs := #[.tmp 38, .tmp 43]) rfl ?_); at_builtin; refine Kd.R_append k52 (w0 := w) w.heap.size rfl (.tmp 38) (.tmp 43) 47 52 (.agg #[(.string ⟨#[]⟩), (.int .i32 0), (.bool false)]) 24 rfl Tryd.underlying47 info52 rfl (by decide) (by omega) u3 (L.map un) ⟨B, 65533, false⟩ [.string B, .int .i32 65533, .bool false] (fun k => k ≠ w.heap.size) (fun _ => False) rfl rfl ?aP (fun _ hk => hk.elim) (fun k hk => by omega) ?aO ?aB ?aS ?aL ?_; (case aP => exact k52_mkM _ _ _ _); (case aO => exact HO2); (case aB => exact hbw2); (case aS => exact below_size hbw2); (case aL => rw [List.length_map]; omega); intro v1 w1 HO3 hb3 hg3 hat3))
              go_roundg g'
              case measure => omega
              case rel => exact ⟨pos + K, L ++ [.g 65533], by rw [hg3.block _ hltW (fun e => HO2.1 _ e.symm rfl)]; exact hit2, hb3, by rw [List.map_append, List.map_cons, List.map_nil, hun]; exact HO3, by rw [List.length_append, List.length_singleton]; omega, Lib.hid (by rw [List.append_assoc]; exact hH1), by omega⟩
            · have hk1 : K = 1 := by
                rcases herr hr with h | h
                · exact h
                · exfalso
                  apply hx
                  rw [Sy.sub3_eq (by omega)]
                  have e : ∀ (u : UInt8) (n : Nat), u.toNat = n → n < 256 → u = UInt8.ofNat n := fun u n h _ => by rw [← h]; exact (UInt8.ofNat_toNat).symm
                  rw [e _ _ h.2.2.1 (by decide), e _ _ h.2.2.2.1 (by decide), e _ _ h.2.2.2.2 (by decide)]
                  rfl
              have hxb : ((s.extract pos (pos + 3)).toList == [239, 191, 189]) = false := beq_eq_false_iff_ne.2 hx
              have he := bad hr hk1
              rw [he] at hH1
              have hcv := dec_one hps
              clear bad good herr hca hdec hH hsz2 hK2 hdf
              go_wp2_with (first | ((with_reducible refine gate_builtin (b := .append) (xs := #[.tmp 29, .tmp 36]) rfl ?_); at_builtin; refine Kd.R_append k52 (w0 := w) w.heap.size rfl (.tmp 29) (.tmp 36) 47 52 (.agg #[(.string ⟨#[]⟩), (.int .i32 0), (.bool false)]) 24 rfl Tryd.underlying47 info52 rfl (by decide) (by omega) u3 (L.map un) (un (.b (s.get! pos))) [.string ⟨#[s.get! pos]⟩, .int .i32 (-1), .bool true] (fun k => k ≠ w.heap.size) (fun _ => False) rfl rfl ?aP (fun _ hk => hk.elim) (fun k hk => by omega) ?aO ?aB ?aS ?aL ?_; (case aP => exact k52_mkM _ _ _ _); (case aO => exact HO2); (case aB => exact hbw2); (case aS => exact below_size hbw2); (case aL => rw [List.length_map]; omega); intro v1 w1 HO3 hb3 hg3 hat3))
              go_roundg g'
              case measure => omega
              case rel => exact ⟨pos + K, L ++ [.b (s.get! pos)], by rw [hg3.block _ hltW (fun e => HO2.1 _ e.symm rfl)]; exact hit2, hb3, by rw [List.map_append]; exact HO3, by rw [List.length_append, List.length_singleton]; omega, Lib.hid (by rw [List.append_assoc]; exact hH1), by omega⟩
        · have c1 : ((R : Int) == 65533) = false := by rw [beq_eq_false_iff_ne]; omega
          obtain ⟨he, hg⟩ := good (fun e => hr e.1)
          rw [he] at hH1
          have hcv := encode_is hg
          clear bad good herr hca hdec hH hsz2 hK2
          go_wp2_with (first | ((with_reducible refine gate_builtin (b := .append) (xs := #[.tmp 38, .tmp 43]) rfl ?_); at_builtin; refine Kd.R_append k52 (w0 := w) w.heap.size rfl (.tmp 38) (.tmp 43) 47 52 (.agg #[(.string ⟨#[]⟩), (.int .i32 0), (.bool false)]) 24 rfl Tryd.underlying47 info52 rfl (by decide) (by omega) u3 (L.map un) (un (.g R)) [.string (strB (Lib.encodeRune (R : Int))), .int .i32 (R : Int), .bool false] (fun k => k ≠ w.heap.size) (fun _ => False) rfl rfl ?aP (fun _ hk => hk.elim) (fun k hk => by omega) ?aO ?aB ?aS ?aL ?_; (case aP => exact k52_mkM _ _ _ _); (case aO => exact HO2); (case aB => exact hbw2); (case aS => exact below_size hbw2); (case aL => rw [List.length_map]; omega); intro v1 w1 HO3 hb3 hg3 hat3))
          go_roundg g'
          case measure => omega
          case rel => exact ⟨pos + K, L ++ [.g R], by rw [hg3.block _ hltW (fun e => HO2.1 _ e.symm rfl)]; exact hit2, hb3, by rw [List.map_append]; exact HO3, by rw [List.length_append, List.length_singleton]; omega, Lib.hid (by rw [List.append_assoc]; exact hH1), by omega⟩
      · have hnx : ∀ ty, (Instr.next (.pointer (some ⟨w.heap.size, 0, none⟩)) true ty).run Tryd.prog wr = _ := fun ty => Lib.run_next_end_at wr w.heap.size s pos ty hit hps
        have he : L = chars (tl s) := by
          have := hH.out
          rw [drop_end hps] at this
          rw [← this]
          exact (List.append_nil _).symm
        rw [he] at HO
        go_wp2
        go_ret
        exact ⟨_, rfl, Kd.R_mono HO (fun _ _ => trivial), hbw⟩
  · cases h
end Go.Proofs.YtonmnpmklkbioaaDoor.Given
/- The small functions of spec: what they say in plain words. -/
namespace Go.Proofs.YtonmnpmklkbioaaDoor.Given
open Go.RowKit Go.Proofs.YtonmnpmklkbioaaDoorW.PrintWords Go.Proofs.YtonmnpmklkbioaaDoorW.PrintLast Go.Proofs.YtonmnpmklkbioaaDoorW.PrintMore Go.Proofs.YtonmnpmklkbioaaDoor.PN
open Go.Proofs.YtonmnpmklkbioaaDoor.Pt (Ch Tk flat chars chs isBad sgn sof signed betw leftC rightC encC dotC hexc isC run Pr hd qt)
open Go.Proofs.YtonmnpmklkbioaaDoor.Sy (tl strB tl_size drop_end drop_ne chars_at getD_tl strB_tl tl_strB dec_err dec_fffd dec_one tkm tkm_ok hasB bitsOf bitsOf_big)
set_option linter.unusedVariables false
set_option linter.unusedSimpArgs false
theorem hasB_bv (m b : Int) : hasB m b = !((BitVec.ofInt 64 m &&& BitVec.ofInt 64 b) == 0#64) := by
  unfold hasB
  have e : Go.bits .and .u64 m b = ((BitVec.ofInt 64 m &&& BitVec.ofInt 64 b).toNat : Int) := by
    show IntKind.u64.wrap ((BitVec.ofInt 64 m &&& BitVec.ofInt 64 b).toNat : Int) = _
    have h := (BitVec.ofInt 64 m &&& BitVec.ofInt 64 b).isLt
    have e : ((BitVec.ofInt 64 m &&& BitVec.ofInt 64 b).toNat : Int) % 2 ^ 64 = ((BitVec.ofInt 64 m &&& BitVec.ofInt 64 b).toNat : Int) := Int.emod_eq_of_lt (by omega) (by omega)
    simp only [IntKind.wrap, IntKind.bits, IntKind.signed, e]
    rfl
  rw [e]
  obtain ⟨x, hx⟩ : ∃ x, (BitVec.ofInt 64 m &&& BitVec.ofInt 64 b) = x := ⟨_, rfl⟩
  rw [hx]
  rw [Bool.eq_iff_iff]
  simp only [bne_iff_ne, ne_eq, Bool.not_eq_true', beq_eq_false_iff_ne]
  constructor
  · intro h e
    apply h
    rw [e]
    rfl
  · intro h e
    apply h
    apply BitVec.eq_of_toNat_eq
    have : x.toNat = 0 := by omega
    rw [this]
    rfl
theorem has_two (m : Int) : hasB m 81920 = (hasB m 16384 || hasB m 65536) := by
  rw [hasB_bv, hasB_bv, hasB_bv, show BitVec.ofInt 64 81920 = BitVec.ofInt 64 16384 ||| BitVec.ofInt 64 65536 by decide]
  obtain ⟨x, hx⟩ : ∃ x, BitVec.ofInt 64 m = x := ⟨_, rfl⟩
  rw [hx, Bool.eq_iff_iff]
  simp only [Bool.or_eq_true, Bool.not_eq_true', beq_eq_false_iff_ne, ne_eq]
  constructor
  · intro h
    by_cases h1 : x &&& BitVec.ofInt 64 16384 = 0#64
    · right
      intro h2
      apply h
      rw [BitVec.and_or_distrib_left, h1, h2]
      rfl
    · exact .inl h1
  · intro h e
    rw [BitVec.and_or_distrib_left] at e
    have e1 : x &&& BitVec.ofInt 64 16384 = 0#64 := by
      apply BitVec.eq_of_getLsbD_eq
      intro i hi
      have := congrArg (fun y => BitVec.getLsbD y i) e
      simp only [BitVec.getLsbD_or, BitVec.getLsbD_zero, Bool.or_eq_false_iff] at this
      rw [this.1, BitVec.getLsbD_zero]
    have e2 : x &&& BitVec.ofInt 64 65536 = 0#64 := by
      apply BitVec.eq_of_getLsbD_eq
      intro i hi
      have := congrArg (fun y => BitVec.getLsbD y i) e
      simp only [BitVec.getLsbD_or, BitVec.getLsbD_zero, Bool.or_eq_false_iff] at this
      rw [this.2, BitVec.getLsbD_zero]
    rcases h with h | h
    · exact h e1
    · exact h e2
theorem has_zero (m : Int) : hasB m 0 = false := by
  rw [hasB_bv, show BitVec.ofInt 64 0 = 0#64 by decide, BitVec.and_zero]
  rfl
theorem beq_eq {a b : Nat} (h : a = b) : Nat.beq a b = true := by rw [h, Nat.beq_refl]
theorem beq_ne {a b : Nat} (h : a ≠ b) : Nat.beq a b = false := by
  cases hb : Nat.beq a b with
  | false => rfl
  | true => exact absurd (by simpa using hb) h
theorem takesRight_is (m : Int) (c : Nat) : spec_TakesRight.f m (c : Int) = some ((tkm m).r c) := by
  show _ = some ((Nat.beq c 32 && hasB m 2097152) || (Nat.beq c 46 && hasB m 4194304) || ((Nat.beq c 9 || Nat.beq c 10 || Nat.beq c 11 || Nat.beq c 13) && hasB m 8388608))
  unfold spec_TakesRight.f hasB
  generalize (Go.bits .and .u64 m 2097152 != 0) = x
  generalize (Go.bits .and .u64 m 4194304 != 0) = y
  generalize (Go.bits .and .u64 m 8388608 != 0) = z
  by_cases h1 : c = 32
  · subst h1; cases x <;> cases y <;> cases z <;> rfl
  by_cases h2 : c = 46
  · subst h2; cases x <;> cases y <;> cases z <;> rfl
  by_cases h3 : c = 13
  · subst h3; cases x <;> cases y <;> cases z <;> rfl
  by_cases h4 : c = 10
  · subst h4; cases x <;> cases y <;> cases z <;> rfl
  by_cases h5 : c = 9
  · subst h5; cases x <;> cases y <;> cases z <;> rfl
  by_cases h6 : c = 11
  · subst h6; cases x <;> cases y <;> cases z <;> rfl
  rw [if_neg (by omega), if_neg (by omega), if_neg (by omega), if_neg (by omega), if_neg (by omega), if_neg (by omega), beq_ne h1, beq_ne h2, beq_ne h3, beq_ne h4, beq_ne h5, beq_ne h6]
  rfl
theorem takesLeft_is (m : Int) (c : Nat) : spec_TakesLeft.f m (c : Int) = some ((tkm m).l c) := by
  show _ = some ((Nat.beq c 32 && hasB m 131072) || (Nat.beq c 46 && hasB m 262144) || (Nat.beq c 126 && hasB m 524288) || ((Nat.beq c 9 || Nat.beq c 10 || Nat.beq c 11 || Nat.beq c 13) && hasB m 1048576))
  unfold spec_TakesLeft.f hasB
  generalize (Go.bits .and .u64 m 131072 != 0) = x
  generalize (Go.bits .and .u64 m 262144 != 0) = y
  generalize (Go.bits .and .u64 m 524288 != 0) = u
  generalize (Go.bits .and .u64 m 1048576 != 0) = z
  by_cases h1 : c = 32
  · subst h1; cases x <;> cases y <;> cases u <;> cases z <;> rfl
  by_cases h2 : c = 46
  · subst h2; cases x <;> cases y <;> cases u <;> cases z <;> rfl
  by_cases h3 : c = 13
  · subst h3; cases x <;> cases y <;> cases u <;> cases z <;> rfl
  by_cases h4 : c = 10
  · subst h4; cases x <;> cases y <;> cases u <;> cases z <;> rfl
  by_cases h5 : c = 9
  · subst h5; cases x <;> cases y <;> cases u <;> cases z <;> rfl
  by_cases h6 : c = 11
  · subst h6; cases x <;> cases y <;> cases u <;> cases z <;> rfl
  by_cases h7 : c = 126
  · subst h7; cases x <;> cases y <;> cases u <;> cases z <;> rfl
  rw [if_neg (by omega), if_neg (by omega), if_neg (by omega), if_neg (by omega), if_neg (by omega), if_neg (by omega), if_neg (by omega), beq_ne h1, beq_ne h2, beq_ne h3, beq_ne h4, beq_ne h5, beq_ne h6, beq_ne h7]
  rfl
theorem leO_up {α : Type} {f : Nat → Option α} (h : ∀ k, LeO (f k) (f (k + 1))) {r : α} {n : Nat} (h0 : f n = some r) : ∀ k, f (k + n) = some r
  | 0 => by rw [Nat.zero_add]; exact h0
  | k + 1 => by
    have := h (k + n) r (leO_up h h0 k)
    rwa [show k + 1 + n = k + n + 1 by omega]
/-- The bits of a character, as one number. -/
def bitN (c : Nat) : Int := match bitsOf c with
  | [] => 0
  | [b] => b
  | _ => 81920
set_option maxRecDepth 100000 in
theorem bit_tab : ((List.range 128).all fun n => n == 0 || (decide (spec_bit.f 3 ((n : Nat) : Int) = some (bitN n)) && (decide (bitsOf n = []) || decide (bitsOf n = [bitN n]) || decide (bitsOf n = [16384, 65536] ∧ bitN n = 81920)))) = true := by kernel_rfl
theorem bitN_is (m : Int) {c : Nat} (hc : 0 < c) : hasB m (bitN c) = (bitsOf c).any (hasB m) := by
  by_cases h : c < 128
  · have := List.all_eq_true.1 bit_tab c (List.mem_range.2 h)
    simp only [Bool.or_eq_true, Bool.and_eq_true, decide_eq_true_eq, beq_iff_eq] at this
    rcases this with h0 | ⟨_, (h1 | h1) | h1⟩
    · omega
    · unfold bitN
      rw [h1]
      exact has_zero m
    · rw [h1]
      simp only [List.any_cons, List.any_nil, Bool.or_false]
    · rw [h1.1, h1.2, has_two]
      simp
  · unfold bitN
    rw [bitsOf_big (by omega)]
    exact has_zero m
theorem bit_is (k : Nat) {c : Nat} (hc : 0 < c) : spec_bit.f (k + 3) (c : Int) = some (bitN c) := by
  refine leO_up (f := fun k => spec_bit.f k (c : Int)) (fun k => spec_bit.mono _ k) ?_ k
  by_cases h : c < 128
  · have := List.all_eq_true.1 bit_tab c (List.mem_range.2 h)
    simp only [Bool.or_eq_true, Bool.and_eq_true, decide_eq_true_eq, beq_iff_eq] at this
    rcases this with h0 | ⟨h1, _⟩
    · omega
    · exact h1
  · unfold bitN
    rw [bitsOf_big (by omega)]
    have ne : ∀ n : Nat, n < 128 → ¬ ((c : Int) = (n : Int)) := fun n hn e => by omega
    have nb : ∀ n : Nat, n < 128 → ((c : Int) == (n : Int)) = false := fun n hn => by rw [beq_eq_false_iff_ne]; exact ne n hn
    have b60 := nb 60 (by omega)
    have b62 := nb 62 (by omega)
    have b91 := nb 91 (by omega)
    have b93 := nb 93 (by omega)
    have b13 := nb 13 (by omega)
    have b10 := nb 10 (by omega)
    simp only [Int.cast_ofNat_Int] at b60 b62 b91 b93 b13 b10
    simp only [spec_bit.f, spec_bit.j0, spec_bit.j1, spec_bit.j2]
    rw [if_neg (by omega), if_neg (by omega), b62]
    simp only [Bool.false_eq_true, if_false]
    repeat rw [if_neg (by omega)]
    rw [b93]
    simp only [Bool.false_eq_true, if_false]
    repeat rw [if_neg (by omega)]
    rw [b10]
    simp only [Bool.false_eq_true, if_false]
    rw [if_pos (by omega), if_neg (by omega)]
theorem takes_is (m : Int) (k c : Nat) : spec_Takes.f (k + 3) m (c : Int) = some ((tkm m).t c) := by
  unfold spec_Takes.f
  show _ = some (Nat.beq c 0 || (bitsOf c).any (hasB m))
  by_cases h : c = 0
  · subst h; rfl
  · rw [if_neg (by omega), if_pos (by omega), bit_is k (by omega), beq_ne h, Bool.false_or, ← bitN_is m (by omega)]
    rfl
/-- What SignOf tells. -/
def sofI (s : Nat) : Int := match sof s with
  | some a => (a : Int)
  | none => -1
theorem w32 (z : Int) (h : -2147483648 ≤ z) (h2 : z ≤ 2147483647) : wrap32 z = z := by unfold wrap32; omega
theorem signOf_is (k : Nat) {s : Nat} (hs : s ≤ 1114111) : spec_SignOf.f (k + 2) (s : Int) = some (sofI s) := by
  unfold spec_SignOf.f
  rcases (show s < 9216 ∨ (9216 ≤ s ∧ s ≤ 9248) ∨ s = 9249 ∨ (9250 ≤ s ∧ s < 65281) ∨ (65281 ≤ s ∧ s ≤ 65374) ∨ 65374 < s by omega) with h | h | h | h | h | h
  · have e : sofI s = -1 := by unfold sofI; rw [Pt.sof_none h]
    rw [e, if_neg (by omega)]
    simp only [spec_SignOf.j0]
    rw [if_neg (by simp), if_neg (by omega), if_neg (by omega)]
  · have e : sofI s = (s : Int) - 9216 := by
      have : sof s = some (s - 9216) := by unfold sof; rw [if_pos h]
      unfold sofI; rw [this]; dsimp only; omega
    rw [e, if_pos (by omega)]
    simp only [spec_SignOf.j0]
    rw [if_pos (by simp; omega), w32 _ (by omega) (by omega)]
  · subst h; rfl
  · have e : sofI s = -1 := by
      have : sof s = none := by unfold sof; rw [if_neg (by omega), if_neg (by omega), if_neg (by omega)]
      unfold sofI; rw [this]
    rw [e, if_pos (by omega)]
    simp only [spec_SignOf.j0]
    rw [if_neg (by simp; omega), if_neg (by omega), if_neg (by omega)]
  · have e : sofI s = (s : Int) - 65248 := by
      have : sof s = some (s - 65248) := by unfold sof; rw [if_neg (by omega), if_neg (by omega), if_pos h]
      unfold sofI; rw [this]; dsimp only; omega
    rw [e, if_pos (by omega)]
    simp only [spec_SignOf.j0]
    rw [if_neg (by simp; omega), if_neg (by omega), if_pos (by omega), if_pos (by omega), w32 _ (by omega) (by omega)]
  · have e : sofI s = -1 := by
      have : sof s = none := by unfold sof; rw [if_neg (by omega), if_neg (by omega), if_neg (by omega)]
      unfold sofI; rw [this]
    rw [e, if_pos (by omega)]
    simp only [spec_SignOf.j0]
    rw [if_neg (by simp; omega), if_neg (by omega), if_pos (by omega), if_neg (by omega)]
theorem signOf_neg (k : Nat) : spec_SignOf.f (k + 2) (-1) = some (-1) := rfl
theorem sign_is {c : Nat} (hc : c < 128) : spec_Sign.f (c : Int) = some (sgn c : Int) := by
  unfold spec_Sign.f sgn
  by_cases h1 : c ≤ 32
  · rw [if_pos (by omega), if_pos h1, w32 _ (by omega) (by omega)]
    simp only [Option.some.injEq]
    omega
  · rw [if_neg (by omega), if_neg h1]
    by_cases h2 : c = 127
    · rw [if_pos (by omega), if_pos h2]; rfl
    · rw [if_neg (by omega), if_neg h2, w32 _ (by omega) (by omega)]
      simp only [Option.some.injEq]
      omega
end Go.Proofs.YtonmnpmklkbioaaDoor.Given
/- spec's closures, signed, between. -/
namespace Go.Proofs.YtonmnpmklkbioaaDoor.Given
open Go.RowKit Go.Proofs.YtonmnpmklkbioaaDoorW.PrintWords Go.Proofs.YtonmnpmklkbioaaDoorW.PrintLast Go.Proofs.YtonmnpmklkbioaaDoorW.PrintMore Go.Proofs.YtonmnpmklkbioaaDoor.PN
open Go.Proofs.YtonmnpmklkbioaaDoor.Pt (Ch Tk flat chars chs isBad sgn sof signed betw leftC rightC encC dotC hexc isC run Pr hd qt)
open Go.Proofs.YtonmnpmklkbioaaDoor.Sy (tl strB tl_size drop_end drop_ne chars_at getD_tl strB_tl tl_strB dec_err dec_fffd dec_one tkm tkm_ok hasB bitsOf bitsOf_big)
set_option linter.unusedVariables false
set_option linter.unusedSimpArgs false
set_option maxHeartbeats 1000000 in
theorem pred39 {mp : Addr} {m : Int} {w : World} (hm : w.cell? mp = some (.int .u64 m)) : PredAt Tryd.prog 39 #[.pointer (some mp)] encR (tkm m).l w := by
  intro W x hb
  have hc := (hb.cell (World.block_lt_of_cell? w _ hm)).trans hm
  clear hm hb
  have ht := spec_TakesLeft.calls m (x : Int) ((tkm m).l x)
  have hv := takesLeft_is m x
  obtain ⟨v, hvv⟩ : ∃ v, (tkm m).l x = v := ⟨_, rfl⟩
  rw [hvv] at ht hv ⊢
  show Calls Tryd.prog 39 #[.int .i32 (x : Int), .pointer (some mp)] W _
  go_enter Tryd.func39, Tryd.ntmps39
  go_wp2_with (go_at_call 40; refine (ht _ hv).mono ?_; rintro e w1 ⟨rfl, ⟨n, rfl⟩⟩)
  go_ret
  exact ⟨rfl, _, rfl⟩
set_option maxHeartbeats 1000000 in
theorem pred41 {mp : Addr} {m : Int} {w : World} (hm : w.cell? mp = some (.int .u64 m)) : PredAt Tryd.prog 41 #[.pointer (some mp)] encR (tkm m).r w := by
  intro W x hb
  have hc := (hb.cell (World.block_lt_of_cell? w _ hm)).trans hm
  clear hm hb
  have ht := spec_TakesRight.calls m (x : Int) ((tkm m).r x)
  have hv := takesRight_is m x
  obtain ⟨v, hvv⟩ : ∃ v, (tkm m).r x = v := ⟨_, rfl⟩
  rw [hvv] at ht hv ⊢
  show Calls Tryd.prog 41 #[.int .i32 (x : Int), .pointer (some mp)] W _
  go_enter Tryd.func41, Tryd.ntmps41
  go_wp2_with (go_at_call 42; refine (ht _ hv).mono ?_; rintro e w1 ⟨rfl, ⟨n, rfl⟩⟩)
  go_ret
  exact ⟨rfl, _, rfl⟩
set_option maxHeartbeats 1000000 in
theorem pred67 {mp : Addr} {m : Int} {w : World} (hm : w.cell? mp = some (.int .u64 m)) : PredAt Tryd.prog 67 #[.pointer (some mp)] encR (tkm m).t w := by
  intro W x hb
  have hc := (hb.cell (World.block_lt_of_cell? w _ hm)).trans hm
  clear hm hb
  have ht := spec_Takes.calls 3 m (x : Int) ((tkm m).t x)
  have hv := takes_is m 0 x
  rw [Nat.zero_add] at hv
  obtain ⟨v, hvv⟩ : ∃ v, (tkm m).t x = v := ⟨_, rfl⟩
  rw [hvv] at ht hv ⊢
  show Calls Tryd.prog 67 #[.int .i32 (x : Int), .pointer (some mp)] W _
  go_enter Tryd.func67, Tryd.ntmps67
  go_wp2_with (go_at_call 46; refine (ht _ hv).mono ?_; rintro e w1 ⟨rfl, ⟨n, rfl⟩⟩)
  go_ret
  exact ⟨rfl, _, rfl⟩
/-- A unit as it is handed over. -/
def unV (c : Ch) : Value := .agg #[.string (un c).f0, .int .i32 (un c).f1, .bool (un c).f2]
/-- What signed tells. -/
def sgV (P : Nat → Bool) (c : Ch) : ByteArray := strB (flat ((signed P c).getD []))
theorem strB_append (a b : List UInt8) : strB (a ++ b) = strB a ++ strB b := by
  apply ByteArray.ext
  rw [ByteArray.data_append]
  simp [strB]
set_option maxHeartbeats 2000000 in
set_option maxRecDepth 100000 in
theorem signed38 {g : Nat} {lb : Array Value} {P : Nat → Bool} {w : World} (eg : ∀ args w, (callFunc g args).run Tryd.prog w = .ok (.enter g args) w) (hp : PredAt Tryd.prog g lb encR P w) (hP : ∀ c, P c = true → c < 128) {c : Ch} (hc : ∀ r, c = .g r → Pt.Good r) :
    Calls Tryd.prog 38 #[unV c, .func (.func g) #[] lb] w fun e w' => e = .returned (.tuple #[.string (sgV P c), .bool (signed P c).isSome]) ∧ Below w.heap.size w w' := by
  have hu52 := Tryd.underlying52
  cases c with
  | b x =>
    show Calls Tryd.prog 38 #[.agg #[.string ⟨#[x]⟩, .int .i32 (-1), .bool true], .func (.func g) #[] lb] w fun e w' => e = .returned (.tuple #[.string ⟨#[]⟩, .bool false]) ∧ Below w.heap.size w w'
    go_enter Tryd.func38, Tryd.ntmps38
    go_wp2
    go_ret2
    exact ⟨rfl, (Below.refl _ w).alloc (Nat.le_refl _) _⟩
  | g r =>
    have hg := hc r rfl
    have hbw : ∀ os, Below w.heap.size w (w.alloc os) := fun os => (Below.refl _ w).alloc (Nat.le_refl _) _
    obtain ⟨T, hT⟩ : ∃ T, strB (Lib.encodeRune (r : Int)) = T := ⟨_, rfl⟩
    have hTs : ¬ 9223372036854775807 < 3 + T.size := by
      have h1 := Sy.rune_le (r : Int)
      have h2 : T.size = (Lib.encodeRune (r : Int)).length := by rw [← hT]; exact Sy.size_strB _
      omega
    have hU : unV (.g r) = .agg #[.string T, .int .i32 (r : Int), .bool false] := by rw [← hT]; rfl
    rw [hU]
    have hle : r ≤ 1114111 := by unfold Pt.Good at hg; omega
    have callP : ∀ (W : World) (x : Nat), Below w.heap.size w W → Calls Tryd.prog g (#[.int .i32 (x : Int)] ++ lb) W (fun e w' => e = .returned (.bool (P x)) ∧ ∃ q, w' = W.drewN q) := fun W x hb => hp W x hb
    cases hPr : P r with
    | true =>
      have h128 := hP r hPr
      have hs : sgV P (.g r) = strB (Lib.encodeRune (sgn r : Int)) := by
        unfold sgV
        rw [Pt.signed_g, hPr]
        show strB (Lib.encodeRune _ ++ []) = _
        rw [List.append_nil]
      have hi : (signed P (.g r)).isSome = true := by rw [Pt.signed_g, hPr]; rfl
      have cS := spec_Sign.calls (r : Int) (sgn r : Int)
      have hv := sign_is h128
      have hcv := encode_is (Pt.good_sgn h128)
      rw [hs, hi]
      obtain ⟨B, hB⟩ : ∃ B, strB (Lib.encodeRune (sgn r : Int)) = B := ⟨_, rfl⟩
      obtain ⟨q, hq⟩ : ∃ q, sgn r = q := ⟨_, rfl⟩
      rw [hq] at cS hv hcv hB
      rw [hB] at hcv
      rw [hq, hB]
      have cP := fun W hb => callP W r hb
      rw [hPr] at cP
      clear callP hs hi hg hT hU hp hq hB
      go_enter Tryd.func38, Tryd.ntmps38
      go_wp2_with (first | (go_at_call 66; refine (cS _ hv).mono ?_; rintro e w1 ⟨rfl, ⟨n, rfl⟩⟩) | (go_at_fn g; refine (cP _ (by with_reducible first | exact hbw _ | exact below_drewN' (hbw _) _ | exact below_drewN' (below_drewN' (hbw _) _) _ | exact below_drewN' (below_drewN' (below_drewN' (hbw _) _) _) _)).mono ?_; rintro e W' ⟨rfl, q, rfl⟩))
      go_ret2
      exact ⟨rfl, by with_reducible first | exact hbw _ | exact below_drewN' (hbw _) _ | exact below_drewN' (below_drewN' (hbw _) _) _ | exact below_drewN' (below_drewN' (below_drewN' (hbw _) _) _) _⟩
    | false =>
      have cP := fun W hb => callP W r hb
      rw [hPr] at cP
      have cO := spec_SignOf.calls 2 (r : Int) (sofI r)
      have hv := signOf_is 0 hle
      rw [Nat.zero_add] at hv
      cases hso : sof r with
      | none =>
        have hsf : signed P (.g r) = none := by rw [Pt.signed_g, hPr, hso]; rfl
        have hz : sofI r = -1 := by unfold sofI; rw [hso]
        have hs : sgV P (.g r) = ⟨#[]⟩ := by unfold sgV; rw [hsf]; rfl
        rw [hs, hsf]
        rw [hz] at cO hv
        clear callP hs hg hT hU hp hso hsf hz
        go_enter Tryd.func38, Tryd.ntmps38
        go_wp2_with (first | (go_at_call 45; refine (cO _ hv).mono ?_; rintro e w1 ⟨rfl, ⟨n, rfl⟩⟩) | (go_at_fn g; refine (cP _ (by with_reducible first | exact hbw _ | exact below_drewN' (hbw _) _ | exact below_drewN' (below_drewN' (hbw _) _) _ | exact below_drewN' (below_drewN' (below_drewN' (hbw _) _) _) _)).mono ?_; rintro e W' ⟨rfl, q, rfl⟩))
        go_ret2
        exact ⟨rfl, by with_reducible first | exact hbw _ | exact below_drewN' (hbw _) _ | exact below_drewN' (below_drewN' (hbw _) _) _ | exact below_drewN' (below_drewN' (below_drewN' (hbw _) _) _) _⟩
      | some a =>
        have hz : sofI r = (a : Int) := by unfold sofI; rw [hso]
        have ha : (0 : Int) ≤ (a : Int) := by omega
        have cA := fun W hb => callP W a hb
        rw [hz] at cO hv
        cases hPa : P a with
        | true =>
          have hsf : signed P (.g r) = some [qt, .g r] := by rw [Pt.signed_g, hPr, hso]; simp [hPa]
          have hs : sgV P (.g r) = ⟨#[226, 128, 155]⟩ ++ T := by
            unfold sgV
            rw [hsf, ← hT]
            show strB (Lib.encodeRune _ ++ (Lib.encodeRune _ ++ [])) = _
            rw [List.append_nil]
            exact strB_append (Lib.encodeRune 8219) _
          have hi : (signed P (.g r)).isSome = true := by rw [hsf]; rfl
          rw [hs, hi]
          rw [hPa] at cA
          clear callP hs hg hT hU hp hso hsf hz hi
          go_enter Tryd.func38, Tryd.ntmps38
          go_wp2_with (first | (go_at_call 45; refine (cO _ hv).mono ?_; rintro e w1 ⟨rfl, ⟨n, rfl⟩⟩) | (go_at_fn g; refine (cP _ (by with_reducible first | exact hbw _ | exact below_drewN' (hbw _) _ | exact below_drewN' (below_drewN' (hbw _) _) _ | exact below_drewN' (below_drewN' (below_drewN' (hbw _) _) _) _)).mono ?_; rintro e W' ⟨rfl, q, rfl⟩) | (go_at_fn g; refine (cA _ (by with_reducible first | exact hbw _ | exact below_drewN' (hbw _) _ | exact below_drewN' (below_drewN' (hbw _) _) _ | exact below_drewN' (below_drewN' (below_drewN' (hbw _) _) _) _)).mono ?_; rintro e W' ⟨rfl, q, rfl⟩))
          go_ret2
          exact ⟨rfl, by with_reducible first | exact hbw _ | exact below_drewN' (hbw _) _ | exact below_drewN' (below_drewN' (hbw _) _) _ | exact below_drewN' (below_drewN' (below_drewN' (hbw _) _) _) _⟩
        | false =>
          have hsf : signed P (.g r) = none := by rw [Pt.signed_g, hPr, hso]; simp [hPa]
          have hs : sgV P (.g r) = ⟨#[]⟩ := by unfold sgV; rw [hsf]; rfl
          rw [hs, hsf]
          rw [hPa] at cA
          clear callP hs hg hT hU hp hso hsf hz
          go_enter Tryd.func38, Tryd.ntmps38
          go_wp2_with (first | (go_at_call 45; refine (cO _ hv).mono ?_; rintro e w1 ⟨rfl, ⟨n, rfl⟩⟩) | (go_at_fn g; refine (cP _ (by with_reducible first | exact hbw _ | exact below_drewN' (hbw _) _ | exact below_drewN' (below_drewN' (hbw _) _) _ | exact below_drewN' (below_drewN' (below_drewN' (hbw _) _) _) _)).mono ?_; rintro e W' ⟨rfl, q, rfl⟩) | (go_at_fn g; refine (cA _ (by with_reducible first | exact hbw _ | exact below_drewN' (hbw _) _ | exact below_drewN' (below_drewN' (hbw _) _) _ | exact below_drewN' (below_drewN' (below_drewN' (hbw _) _) _) _)).mono ?_; rintro e W' ⟨rfl, q, rfl⟩))
          go_ret2
          exact ⟨rfl, by with_reducible first | exact hbw _ | exact below_drewN' (hbw _) _ | exact below_drewN' (below_drewN' (hbw _) _) _ | exact below_drewN' (below_drewN' (below_drewN' (hbw _) _) _) _⟩
end Go.Proofs.YtonmnpmklkbioaaDoor.Given
/- spec.between. -/
namespace Go.Proofs.YtonmnpmklkbioaaDoor.Given
open Go.RowKit Go.Proofs.YtonmnpmklkbioaaDoorW.PrintWords Go.Proofs.YtonmnpmklkbioaaDoorW.PrintLast Go.Proofs.YtonmnpmklkbioaaDoorW.PrintMore Go.Proofs.YtonmnpmklkbioaaDoor.PN
open Go.Proofs.YtonmnpmklkbioaaDoor.Pt (Ch Tk flat chars chs isBad sgn sof signed betw leftC rightC encC dotC hexc isC run Pr hd qt)
open Go.Proofs.YtonmnpmklkbioaaDoor.Sy (tl strB tl_size drop_end drop_ne chars_at getD_tl strB_tl tl_strB dec_err dec_fffd dec_one tkm tkm_ok hasB bitsOf bitsOf_big)
set_option linter.unusedVariables false
set_option linter.unusedSimpArgs false
theorem conv_two (W : World) (A B : Int) : (convert 23 9 (.slice (some ⟨W.heap.size, 0, none⟩) 2 2)).run Tryd.prog ((W.alloc (.cells #[.int .u8 A, .int .u8 B] 5)).drew) = .ok (.string (strOfNums [A, B])) ((W.alloc (.cells #[.int .u8 A, .int .u8 B] 5)).drew) := by
  refine run_convert_bytes_arg _ 23 5 Tryd.underlying23 Tryd.underlying5 W.heap.size 0 2 2 [A, B] rfl (fun i hi => ?_) 9 Tryd.underlying9
  match i, hi with
  | 0, _ => simp
  | 1, _ => simp
theorem hex_nib : ∀ i : Fin 16, ((⟨#[48, 49, 50, 51, 52, 53, 54, 55, 56, 57, 65, 66, 67, 68, 69, 70]⟩ : ByteArray)[i.val]'(i.isLt)).toNat = hexc i.val := by decide
theorem hex_rune (n : Nat) (h : n < 16) : Lib.encodeRune ((hexc n : Nat) : Int) = [UInt8.ofNat (hexc n)] := by
  have h1 := Pt.hexc_low n h
  rcases Pt.good_small (show Pt.Good (hexc n) by unfold Pt.Good; omega) with h2 | h2
  · exact h2.2.2
  · omega
theorem hex_str (x : UInt8) (h1 : x.toNat / 16 < (⟨#[48, 49, 50, 51, 52, 53, 54, 55, 56, 57, 65, 66, 67, 68, 69, 70]⟩ : ByteArray).size) (h2 : x.toNat % 16 < (⟨#[48, 49, 50, 51, 52, 53, 54, 55, 56, 57, 65, 66, 67, 68, 69, 70]⟩ : ByteArray).size) :
    (⟨#[226, 128, 155]⟩ : ByteArray) ++ strOfNums [(((⟨#[48, 49, 50, 51, 52, 53, 54, 55, 56, 57, 65, 66, 67, 68, 69, 70]⟩ : ByteArray)[x.toNat / 16]'h1).toNat : Int), (((⟨#[48, 49, 50, 51, 52, 53, 54, 55, 56, 57, 65, 66, 67, 68, 69, 70]⟩ : ByteArray)[x.toNat % 16]'h2).toNat : Int)] =
      strB (flat [qt, .g (hexc (x.toNat / 16)), .g (hexc (x.toNat % 16))]) := by
  have e1 := hex_nib ⟨x.toNat / 16, h1⟩
  have e2 := hex_nib ⟨x.toNat % 16, h2⟩
  dsimp only at e1 e2
  rw [e1, e2]
  show _ = strB (Lib.encodeRune 8219 ++ (Lib.encodeRune _ ++ (Lib.encodeRune _ ++ [])))
  rw [strB_append, hex_rune _ h1, hex_rune _ h2]
  rfl
theorem strB_one (r : Nat) : strB (flat [.g r]) = strB (Lib.encodeRune (r : Int)) := by
  show strB (Lib.encodeRune _ ++ []) = _
  rw [List.append_nil]
theorem strB_two (r s : Nat) : strB (flat [.g r, .g s]) = strB (Lib.encodeRune (r : Int)) ++ strB (Lib.encodeRune (s : Int)) := by
  show strB (Lib.encodeRune _ ++ (Lib.encodeRune _ ++ [])) = _
  rw [List.append_nil, strB_append]
set_option maxHeartbeats 2000000 in
set_option maxRecDepth 100000 in
theorem between43 (m : Int) (w : World) {c : Ch} (hc : ∀ r, c = .g r → Pt.Good r) :
    Calls Tryd.prog 43 #[.int .u64 m, unV c] w fun e w' => e = .returned (.string (strB (flat (betw (tkm m) c)))) ∧ Below w.heap.size w w' := by
  have hu52 := Tryd.underlying52
  have hbw : ∀ os, Below w.heap.size w (w.alloc os) := fun os => (Below.refl _ w).alloc (Nat.le_refl _) _
  have hbw2 : ∀ os os', Below w.heap.size w ((w.alloc os).alloc os') := fun os os' => (hbw os).alloc (hbw os).size _
  cases c with
  | b x =>
    rw [Pt.betw_b]
    show Calls Tryd.prog 43 #[.int .u64 m, .agg #[.string ⟨#[x]⟩, .int .i32 (-1), .bool true]] w _
    have hinv : (tkm m).inv = !((Go.bits .and .u64 m 16777216) == 0) := rfl
    rw [hinv]
    cases hb : (Go.bits .and .u64 m 16777216) == 0 with
    | true =>
      show Calls Tryd.prog 43 _ w fun e w' => e = .returned (.string ⟨#[x]⟩) ∧ Below w.heap.size w w'
      go_enter Tryd.func43, Tryd.ntmps43
      go_wp2
      go_ret
      exact ⟨rfl, hbw2 _ _⟩
    | false =>
      go_enter Tryd.func43, Tryd.ntmps43
      have hx0 : (0 : Int) ≤ (x.toNat : Int) := by omega
      have hx1 : (x.toNat : Int) ≤ 255 := by have := x.toNat_lt; omega
      have hand : Go.bits .and .u8 (x.toNat : Int) 15 = (x.toNat : Int) % 16 := Sy.and15 _ hx0 hx1
      have hidx : ∀ h, ((⟨#[x]⟩ : ByteArray)[0]'h) = x := fun _ => rfl
      have g1 : (0 : Int) ≤ (x.toNat : Int) % 16 := by omega
      have g2 : (x.toNat : Int) % 16 < 16 := by omega
      have g3 : (0 : Int) ≤ (x.toNat : Int) / 16 := by omega
      have g4 : (x.toNat : Int) / 16 < 16 := by omega
      have conv : ∀ A B : Int, (convert 23 9 (.slice (some ⟨w.heap.size + 1 + 1, 0, none⟩) 2 2)).run Tryd.prog ((((w.alloc (.cells #[.int .u64 m] 22)).alloc (.cells #[.string ⟨#[x]⟩, .int .i32 (-1), .bool true] 52)).alloc (.cells #[.int .u8 A, .int .u8 B] 5)).drew) = .ok (.string (strOfNums [A, B])) ((((w.alloc (.cells #[.int .u64 m] 22)).alloc (.cells #[.string ⟨#[x]⟩, .int .i32 (-1), .bool true] 52)).alloc (.cells #[.int .u8 A, .int .u8 B] 5)).drew) := by
        intro A B
        obtain ⟨W, hW⟩ : ∃ W, (w.alloc (.cells #[.int .u64 m] 22)).alloc (.cells #[.string ⟨#[x]⟩, .int .i32 (-1), .bool true] 52) = W := ⟨_, rfl⟩
        have hsz : W.heap.size = w.heap.size + 1 + 1 := by rw [← hW]; simp
        rw [hW, ← hsz]
        exact conv_two W A B
      have hsz : ∀ A B : Int, ¬ 9223372036854775807 < 3 + (strOfNums [A, B]).size := fun A B => by rw [strOfNums_size]; simp
      go_wp2
      go_region
      all_goals go_wp2
      all_goals go_ret
      all_goals exact ⟨by rw [hex_str]; rfl, below_drewN' (((hbw2 _ _).alloc (hbw2 _ _).size _)) 1⟩
  | g r =>
    have hg := hc r rfl
    obtain ⟨T, hT⟩ : ∃ T, strB (Lib.encodeRune (r : Int)) = T := ⟨_, rfl⟩
    have hTs : ¬ 9223372036854775807 < 3 + T.size := by
      have h1 := Sy.rune_le (r : Int)
      have h2 : T.size = (Lib.encodeRune (r : Int)).length := by rw [← hT]; exact Sy.size_strB _
      omega
    have hU : unV (.g r) = .agg #[.string T, .int .i32 (r : Int), .bool false] := by rw [← hT]; rfl
    rw [Pt.betw_g, hU]
    by_cases hq : r = 8219
    · have hTT : strB (flat [qt, qt]) = ⟨#[226, 128, 155]⟩ ++ T := by
        rw [strB_two, ← hT, hq]
        rfl
      rw [if_pos hq, hTT]
      subst hq
      clear hT hU hg
      go_enter Tryd.func43, Tryd.ntmps43
      go_wp2
      go_ret
      exact ⟨rfl, hbw2 _ _⟩
    · rw [if_neg hq]
      have c1 : ((r : Int) == 8219) = false := by rw [beq_eq_false_iff_ne]; omega
      have hrr : (((signed (tkm m).t (.g r)).getD [.g r]) = (match signed (tkm m).t (.g r) with | some t => t | none => [.g r])) := by cases signed (tkm m).t (.g r) <;> rfl
      have eg : ∀ args w, (callFunc 67 args).run Tryd.prog w = .ok (.enter 67 args) w := enters_of (c := Tryd.f67.body.getD .skip) Tryd.func67 (by kernel_rfl) (by kernel_rfl)
      have cS := fun (W : World) (hm : W.cell? ⟨w.heap.size, 0, none⟩ = some (.int .u64 m)) => signed38 eg (pred67 hm) (tkm_ok m).t hc
      rw [hU] at cS
      obtain ⟨V, hV⟩ : ∃ V, sgV (tkm m).t (.g r) = V := ⟨_, rfl⟩
      have hm : ∀ os, ((w.alloc (.cells #[.int .u64 m] 22)).alloc os).cell? ⟨w.heap.size, 0, none⟩ = some (.int .u64 m) := fun os => by simp
      cases hsg : signed (tkm m).t (.g r) with
      | none =>
        have hout : strB (flat ((none : Option (List Ch)).getD [.g r])) = T := by rw [← hT]; exact strB_one r
        rw [hout]
        rw [hV, hsg] at cS
        clear hT hU hg hsg hrr hV hout
        go_enter Tryd.func43, Tryd.ntmps43
        go_wp2_with (go_at_call 38; refine (cS _ (hm _)).mono ?_; rintro e w1 ⟨rfl, hb1⟩; have hT1 : w1.cell? ⟨w.heap.size + 1, 0, none⟩ = some (.string T) := (hb1.cell (by simp)).trans (by simp))
        go_ret
        exact ⟨rfl, (hbw2 _ _).trans (hb1.mono (hbw2 _ _).size)⟩
      | some t =>
        have hout : strB (flat ((some t : Option (List Ch)).getD [.g r])) = V := by
          rw [← hV]
          unfold sgV
          rw [hsg]
          rfl
        rw [hout]
        rw [hV, hsg] at cS
        clear hT hU hg hsg hrr hV hout
        go_enter Tryd.func43, Tryd.ntmps43
        go_wp2_with (go_at_call 38; refine (cS _ (hm _)).mono ?_; rintro e w1 ⟨rfl, hb1⟩)
        go_ret
        exact ⟨rfl, (hbw2 _ _).trans (hb1.mono (hbw2 _ _).size)⟩
end Go.Proofs.YtonmnpmklkbioaaDoor.Given
/- Bytes made of a text, written on behind: a row whose mark stands past its end. -/
namespace Go.Proofs.YtonmnpmklkbioaaDoor.Given
open Go.RowKit Go.Lib
set_option linter.unusedVariables false
set_option linter.unusedSimpArgs false
/-- The slice v has these bytes in a row of the call's own; what is marked of it stands past its end. -/
def OwnG (w : World) (base : Nat) (v : Value) (xs : List Value) : Prop :=
  ∃ g cap cur fz, v = .slice (some ⟨g, 0, none⟩) xs.length cap ∧ base ≤ g ∧ w.heap[g]? = some (.cells cur 5 fz) ∧ (fz.2 = 0 ∨ cap ≤ fz.1) ∧ xs.length ≤ cap ∧ cap ≤ maxLen ∧ cur.size = cap ∧ cur.toList.take xs.length = xs
theorem OwnG.move {w w' : World} {base : Nat} {v : Value} {xs : List Value} (h : OwnG w base v xs) (hm : ∀ k, v.ownBlock = some k → w'.heap[k]? = w.heap[k]?) : OwnG w' base v xs := by
  obtain ⟨g, cap, cur, fz, rfl, h1, h2, h3⟩ := h
  exact ⟨g, cap, cur, fz, rfl, h1, (hm g rfl).trans h2, h3⟩
theorem OwnG.lt {w : World} {base : Nat} {v : Value} {xs : List Value} (h : OwnG w base v xs) : ∀ k, v.ownBlock = some k → base ≤ k ∧ k < w.heap.size := by
  obtain ⟨g, cap, cur, fz, rfl, h1, h2, h3⟩ := h
  intro k hk
  simp only [Value.ownBlock, Option.some.injEq] at hk
  subst hk
  exact ⟨h1, (Array.getElem?_eq_some_iff.1 h2).1⟩
theorem OwnG.below {w w' : World} {base : Nat} {v : Value} {xs : List Value} (h : OwnG w base v xs) (hb : Below w.heap.size w w') : OwnG w' base v xs := h.move fun k hk => hb.block k (h.lt k hk).2
/-- Cells are written one behind the other, the mark past the end. -/
theorem storesG (P : Program) (g o : Nat) (t : TypeId) (fz : Nat × Nat) : ∀ (vs : List Value) (i : Nat) (cur : Array Value) (w : World), w.heap[g]? = some (.cells cur t fz) → (fz.2 = 0 ∨ cur.size ≤ fz.1) → o + i + vs.length ≤ cur.size → (∀ v ∈ vs, v.oneCell' = true) →
    (storeCells ⟨g, o, none⟩ vs i).run P w = .ok () (w.setRow g (cur.toList.take (o + i) ++ vs ++ cur.toList.drop (o + i + vs.length)).toArray)
  | [], i, cur, w, hg, _, _, _ => by
    simp only [storeCells, List.append_nil, List.length_nil, Nat.add_zero, List.take_append_drop, Array.toArray_toList]
    rw [setRow_self w g cur t fz hg]
    rfl
  | v :: rest, i, cur, w, hg, hfz, hl, h1 => by
    have hi : o + i < cur.size := by simp at hl; omega
    have hadd : (⟨g, o, none⟩ : Addr).add i = ⟨g, o + i, none⟩ := by unfold Addr.add; split <;> simp_all
    have hcell : w.cell? ⟨g, o + i, none⟩ = some cur[o + i] := by simp [World.cell?, hg, hi]
    have hfro : w.frozen? ⟨g, o + i, none⟩ = false := by
      obtain ⟨lo, hi'⟩ := fz
      simp only [World.frozen?, hg, Bool.and_eq_false_iff, decide_eq_false_iff_not]
      simp only at hfz
      omega
    have hst : (store ((⟨g, o, none⟩ : Addr).add i) v).run P w = .ok () (w.setRow g (cur.setIfInBounds (o + i) v)) := by
      rw [hadd, run_store P w _ v _ (h1 v (by simp)), hcell]
      simp [hfro, setCell_eq_setRow w g (o + i) cur t fz v hg]
    have ih := storesG P g o t fz rest (i + 1) (cur.setIfInBounds (o + i) v) (w.setRow g (cur.setIfInBounds (o + i) v)) (setRow_heap w g cur _ t _ hg) (by simpa using hfz) (by simp at hl ⊢; omega) (fun x hx => h1 x (by simp [hx]))
    simp only [storeCells, Sem.run_bind, hst, Result.andThen_ok, ih, setRow_setRow]
    congr 3
    have e := list_seg_step cur.toList (o + i) v rest (by simp at hl ⊢; omega)
    simpa [Array.toList_setIfInBounds, Nat.add_assoc] using e
/-- A text is written behind the bytes. -/
theorem appendG (w : World) (base : Nat) (ty : TypeId) {i : TypeInfo} (hi : Tryd.prog.info? 5 = some i) (hz : i.zero = some (.int .u8 0)) (hsize : i.size = 1) (hby : i.bytes = 1) {v : Value} {xs : List Value} (hown : OwnG w base v xs) (s : ByteArray)
    (hbytes : xs.length + s.size ≤ 140737488355328) (hbase : base ≤ w.heap.size) :
    ∃ v' w', (Builtin.append_ #[23, 9] ty #[v, .string s]).run Tryd.prog w = .ok v' w' ∧ OwnG w' base v' (xs ++ strCells s) ∧ w.grownBy w' v.ownBlock := by
  have ht := Tryd.underlying23
  have hu := Tryd.underlying9
  obtain ⟨g, cap, cur, fz, rfl, hbg, hg, hfz, hnc, hcm, hcs, htake⟩ := hown
  have hlen : (xs ++ strCells s).length = xs.length + s.size := by rw [List.length_append, strCells_length]
  have h63 : xs.length + s.size ≤ maxLen := by unfold maxLen; omega
  by_cases hroom : xs.length + s.size ≤ cap
  · have hf := run_firstCells_string (P := Tryd.prog) w 1 s
    have hst := storesG Tryd.prog g xs.length 5 fz (strCells s) 0 cur w hg (by rw [hcs]; exact hfz) (by rw [strCells_length]; omega) (strCells_oneCell s)
    simp only [Nat.add_zero, strCells_length] at hst
    have hr : (Builtin.append_ #[23, 9] ty #[.slice (some ⟨g, 0, none⟩) xs.length cap, .string s]).run Tryd.prog w =
        .ok (.slice (some ⟨g, 0, none⟩) (xs.length + s.size) cap) (w.setRow g (cur.toList.take xs.length ++ strCells s ++ cur.toList.drop (xs.length + s.size)).toArray) := by
      simp [Builtin.append_, run_underlying ht, run_underlying hu, sizeOf, typeInfo, hi, hsize, Builtin.lenOf, hroom, hf, Addr.add_lit, hst]
    refine ⟨_, _, hr, ⟨g, cap, _, fz, by rw [hlen], hbg, setRow_heap w g cur _ 5 _ hg, hfz, by omega, hcm, ?_, ?_⟩, ⟨rfl, rfl, rfl, by simp, fun k _ hk => setRow_other w g k _ (fun e => hk (by simp [Value.ownBlock, e]))⟩⟩
    · simp only [List.size_toArray, List.length_append, List.length_take, List.length_drop, Array.length_toList, strCells_length]
      omega
    · rw [htake]
      exact List.take_left
  · have holds : ∀ j u, xs[j]? = some u → w.cell? ((⟨g, 0, none⟩ : Addr).add j) = some u := by
      intro j u hu
      have hadd : (⟨g, 0, none⟩ : Addr).add j = ⟨g, j, none⟩ := by unfold Addr.add; split <;> simp_all
      rw [hadd, cell_of_row w g j cur 5 fz hg]
      rw [← htake, List.getElem?_take] at hu
      split at hu
      · simpa using hu
      · cases hu
    have hr := run_append_grow_string (P := Tryd.prog) w 23 9 ty 5 i (.int .u8 0) ht hu hi hz ⟨g, 0, none⟩ xs.length cap xs (by rw [hsize, Nat.mul_one]) holds s (by omega) (by omega) (by rw [hby]; exact growslice_fits (by omega) (by omega))
    have hge := grownCap_ge w (xs.length + s.size) cap 5
    have hcm2 : grownCap w (xs.length + s.size) cap 5 ≤ maxLen := grownCap_le_maxLen w (xs.length + s.size) cap 5 h63
    refine ⟨_, _, hr, ⟨w.heap.size, _, _, (0, 0), by rw [hlen], hbase, heap_alloc_new w.drew _, .inl rfl, by omega, hcm2, ?_, ?_⟩, ⟨rfl, rfl, rfl, by simp, fun k hk _ => heap_alloc_old w.drew _ hk⟩⟩
    · have hz1 : (Value.int IntKind.u8 0).cells.size = 1 := rfl
      simp only [Array.size_append, List.size_toArray, size_zeroCells, hz1, strCells_length]
      omega
    · simp only [Array.toList_append, List.append_assoc]
      rw [← List.append_assoc]
      exact List.take_left
theorem infoG5 : (Tryd.prog.info? 5).map (fun i => (i.zero, i.size, i.bytes)) = some (some (.int .u8 0), 1, 1) := by kernel_rfl
/-- The same, for the walk. -/
theorem wpAppendG {w : World} {ops : Array Oper} {rest : List Oper} {o : Oper} {a : Act} {Q : Exit → Act → World → Prop} (hgd : o.guard = none) (sl x : Operand)
    (ho : o.op = .call { callee := .builtin .append, args := #[sl, x], argTypes := #[23, 9] }) (base : Nat)
    {v : Value} {xs : List Value} (hs : a.eval sl = v) (hown : OwnG w base v xs) (s : ByteArray) (hx : a.eval x = .string s) (hbytes : xs.length + s.size ≤ 140737488355328) (hbase : base ≤ w.heap.size)
    (h : ∀ v' w', OwnG w' base v' (xs ++ strCells s) → w.grownBy w' v.ownBlock → wpList Tryd.prog ops Q rest (a.put o.dst v') w') : wpList Tryd.prog ops Q (o :: rest) a w := by
  obtain ⟨i, hi, hzz⟩ := Option.map_eq_some_iff.1 infoG5
  simp only [Prod.mk.injEq] at hzz
  refine wpList_plain hgd fun K hK => ?_
  obtain ⟨v', w', hr, h2, h3⟩ := appendG w base o.type hi hzz.1 hzz.2.1 hzz.2.2 hown s hbytes hbase
  unfold Oper.wp execOp
  simp only [ho, resolve, invoke, builtin, Sem.run_bind, Sem.run_pure, Result.andThen_ok, List.map_toArray, List.map_cons, List.map_nil, hs, hx, hr]
  exact hK _ _ (h v' w' h2 h3)
/-- The bytes that a text is made to. -/
theorem bytesG (w : World) (s : ByteArray) {base : Nat} (hb : base ≤ w.heap.size) (hs : s.size ≤ 140737488355328) : OwnG (bytesWorld w 5 s) base (.slice (some ⟨w.heap.size, 0, none⟩) s.size (grownCap w s.size 0 5)) (strCells s) := by
  have hl := strCells_length s
  have hge := grownCap_ge w s.size 0 5
  have hcm : grownCap w s.size 0 5 ≤ maxLen := grownCap_le_maxLen w s.size 0 5 (by unfold maxLen; omega)
  have hz : (bytesCells w 5 s).size = grownCap w s.size 0 5 := by
    unfold bytesCells
    simp only [Array.size_append, Array.size_map, Array.size_replicate]
    have : s.data.size = s.size := rfl
    omega
  refine ⟨w.heap.size, grownCap w s.size 0 5, bytesCells w 5 s, _, by rw [hl], hb, bytesWorld_at_new w 5 s, .inr (by simp only; omega), by omega, hcm, hz, ?_⟩
  unfold bytesCells
  rw [Array.toList_append, Array.toList_map, hl, List.take_append_of_le_length (by rw [List.length_map, Array.length_toList]; exact Nat.le_refl _), List.take_of_length_le (by rw [List.length_map, Array.length_toList]; exact Nat.le_refl _)]
  rfl
theorem belowG (w : World) (s : ByteArray) {base : Nat} {w0 : World} (h : Below base w0 w) (hb : base ≤ w.heap.size) : Below base w0 (bytesWorld w 5 s) :=
  h.trans ⟨rfl, rfl, rfl, by rw [bytesWorld_size]; omega, fun k hk => bytesWorld_at_old w 5 s k (by omega)⟩
/-- .. and back. -/
theorem textG {w : World} {base : Nat} {v : Value} {l : List UInt8} (h : OwnG w base v (l.map fun b => Value.int .u8 (b.toNat : Int))) : (convert 23 9 v).run Tryd.prog w = .ok (.string ⟨l.toArray⟩) w := by
  obtain ⟨g, cap, cur, fz, rfl, h1, h2, h3, h4, h5, h6, h7⟩ := h
  have hr := run_convert_bytes_arg w 23 5 Tryd.underlying23 Tryd.underlying5 g 0 l.length cap (l.map fun b => (b.toNat : Int)) (List.length_map _) (fun i hi => ?_) 9 Tryd.underlying9
  · have e : strOfNums (l.map fun b => (b.toNat : Int)) = ⟨l.toArray⟩ := ?_
    · rw [List.length_map, hr, e]
    unfold strOfNums
    rw [List.map_map]
    have : (fun n : Int => UInt8.ofNat n.toNat) ∘ (fun b : UInt8 => (b.toNat : Int)) = id := by
      funext b
      simp
    rw [this, List.map_id]
  · rw [Nat.zero_add, cell_of_row w g i cur 5 fz h2]
    have hx : (cur.toList.take (l.map fun b => Value.int .u8 (b.toNat : Int)).length)[i]? = (l.map fun b => Value.int .u8 (b.toNat : Int))[i]? := by rw [h7]
    rw [List.length_map, List.getElem?_take, if_pos hi] at hx
    rw [← Array.getElem?_toList, hx]
    simp [List.getD, hi]
end Go.Proofs.YtonmnpmklkbioaaDoor.Given
/- spec.NameEncode: what it gives. -/
namespace Go.Proofs.YtonmnpmklkbioaaDoor.Given
open Go.RowKit Go.Proofs.YtonmnpmklkbioaaDoorW.PrintWords Go.Proofs.YtonmnpmklkbioaaDoorW.PrintLast Go.Proofs.YtonmnpmklkbioaaDoorW.PrintMore Go.Proofs.YtonmnpmklkbioaaDoor.PN
open Go.Proofs.YtonmnpmklkbioaaDoor.Pt (Ch Tk flat chars chs isBad sgn sof signed betw leftC rightC encC dotC hexc isC run Pr hd qt)
open Go.Proofs.YtonmnpmklkbioaaDoor.Sy (tl strB tl_size drop_end drop_ne chars_at getD_tl strB_tl tl_strB dec_err dec_fffd dec_one tkm tkm_ok hasB bitsOf bitsOf_big dotO dotO_is)
set_option linter.unusedVariables false
set_option linter.unusedSimpArgs false
/-- The names of points, raw and as they are written. -/
def dotCells : Array Value := #[.string ⟨#[46]⟩, .string ⟨#[239, 188, 142]⟩, .string ⟨#[46, 46]⟩, .string ⟨#[239, 188, 142, 239, 188, 142]⟩, .string ⟨#[239, 188, 142]⟩, .string ⟨#[226, 128, 155, 239, 188, 142]⟩, .string ⟨#[239, 188, 142, 239, 188, 142]⟩, .string ⟨#[226, 128, 155, 239, 188, 142, 226, 128, 155, 239, 188, 142]⟩]
set_option maxHeartbeats 1000000 in
theorem dots36 (w : World) : Calls Tryd.prog 36 #[] w fun e w' => e = .returned (.slice (some ⟨w.heap.size, 0, none⟩) 4 4) ∧ w' = w.alloc (.cells dotCells 46) := by
  go_enter Tryd.func36, Tryd.ntmps36
  go_wp2
  go_ret
  exact ⟨rfl, rfl⟩
theorem dots36' (w : World) : Calls Tryd.prog 36 #[] w fun e w' => e = .returned (.slice (some ⟨w.heap.size, 0, none⟩) 4 4) ∧ Below w.heap.size w w' ∧ w'.heap[w.heap.size]? = some (.cells dotCells 46 (0, 0)) ∧ w'.heap.size = w.heap.size + 1 :=
  (dots36 w).mono fun e w' ⟨h1, h2⟩ => ⟨h1, by rw [h2]; exact (Below.refl _ w).alloc (Nat.le_refl _) _, by rw [h2]; exact heap_alloc_new w _, by rw [h2]; simp⟩
def dA : Nat → List UInt8
  | 0 => [46]
  | 1 => [46, 46]
  | 2 => [239, 188, 142]
  | _ => [239, 188, 142, 239, 188, 142]
def dB : Nat → ByteArray
  | 0 => ⟨#[239, 188, 142]⟩
  | 1 => ⟨#[239, 188, 142, 239, 188, 142]⟩
  | 2 => ⟨#[226, 128, 155, 239, 188, 142]⟩
  | _ => ⟨#[226, 128, 155, 239, 188, 142, 226, 128, 155, 239, 188, 142]⟩
/-- The name is the j-th name of points, and the mask has to do with them. -/
def cD (m : Int) (s : ByteArray) (j : Nat) : Bool := hasB m 33554432 && (s.toList == dA j)
theorem dot_hit {m : Int} {s : ByteArray} {i : Nat} (hi : i < 4) (h : ∀ j, j < i → cD m s j = false) (hc : cD m s i = true) : dotO m s = some (dB i) := by
  unfold cD at h hc
  rw [Bool.and_eq_true] at hc
  have e : ∀ j, j < i → (s.toList == dA j) = false := fun j hj => by have := h j hj; rw [hc.1] at this; simpa using this
  unfold dotO
  rw [hc.1, cond_true]
  rcases (show i = 0 ∨ i = 1 ∨ i = 2 ∨ i = 3 by omega) with rfl | rfl | rfl | rfl
  · rw [show (s.toList == [46]) = true from hc.2]; rfl
  · rw [show (s.toList == [46]) = false from e 0 (by omega), show (s.toList == [46, 46]) = true from hc.2]; rfl
  · rw [show (s.toList == [46]) = false from e 0 (by omega), show (s.toList == [46, 46]) = false from e 1 (by omega), show (s.toList == [239, 188, 142]) = true from hc.2]; rfl
  · rw [show (s.toList == [46]) = false from e 0 (by omega), show (s.toList == [46, 46]) = false from e 1 (by omega), show (s.toList == [239, 188, 142]) = false from e 2 (by omega), show (s.toList == [239, 188, 142, 239, 188, 142]) = true from hc.2]; rfl
theorem dot_no {m : Int} {s : ByteArray} (h : ∀ j, j < 4 → cD m s j = false) : dotO m s = none := by
  unfold cD at h
  unfold dotO
  cases hb : hasB m 33554432 with
  | false => rfl
  | true =>
    have e : ∀ j, j < 4 → (s.toList == dA j) = false := fun j hj => by have := h j hj; rw [hb] at this; simpa using this
    rw [cond_true, show (s.toList == [46]) = false from e 0 (by omega), show (s.toList == [46, 46]) = false from e 1 (by omega), show (s.toList == [239, 188, 142]) = false from e 2 (by omega), show (s.toList == [239, 188, 142, 239, 188, 142]) = false from e 3 (by omega)]
    rfl
theorem chars_len : ∀ l : List UInt8, (chars l).length ≤ l.length := by
  have key : ∀ (n : Nat) (l : List UInt8), l.length ≤ n → (chars l).length ≤ l.length := by
    intro n
    induction n with
    | zero =>
      intro l h
      have : l = [] := List.length_eq_zero_iff.1 (by omega)
      subst this
      exact Nat.le_refl _
    | succ n ih =>
      intro l h
      by_cases hl : l = []
      · subst hl; exact Nat.le_refl _
      · have hp : 0 < l.length := List.length_pos_iff.2 hl
        have hw := Lib.decodeL_width l
        have := ih (l.drop (Lib.decodeL l).2) (by rw [List.length_drop]; omega)
        rw [Pt.chars_cons hl, List.length_cons]
        rw [List.length_drop] at this
        omega
  exact fun l => key _ l (Nat.le_refl _)
theorem w64m {n : Nat} (h : n ≤ 9223372036854775807) : wrap64 (((n + 1 : Nat) : Int) - 1) = (n : Int) := by
  unfold wrap64; omega
theorem flat_len : ∀ L : List Ch, (flat L).length ≤ 4 * L.length
  | [] => Nat.le_refl _
  | c :: L => by
    have ih := flat_len L
    have h : c.by.length ≤ 4 := by
      cases c with
      | b x => show 1 ≤ 4; omega
      | g r => exact Sy.rune_le _
    rw [Pt.flat_cons, List.length_append, List.length_cons]
    omega
theorem signed_len {P : Nat → Bool} {c : Ch} {t : List Ch} (h : signed P c = some t) : t.length ≤ 2 := by
  rcases Pt.signed_cases h with ⟨r, e, h1, rfl⟩ | ⟨r, a, e, h1, h2, h3, rfl⟩ <;> simp
theorem betw_len (k : Tk) (c : Ch) : (flat (betw k c)).length ≤ 20 := by
  have h := flat_len (betw k c)
  have h2 : (betw k c).length ≤ 3 := by
    cases c with
    | b x => rw [Pt.betw_b]; split <;> simp
    | g r =>
      rw [Pt.betw_g]
      split
      · simp
      · cases hs : signed k.t (.g r) with
        | none => simp
        | some t => have := signed_len hs; simp only [Option.getD_some]; omega
  omega
theorem left_len (k : Tk) (L : List Ch) : (leftC k L).1.length ≤ 2 := by
  rcases Pt.left_cases k L with ⟨c', t, R', e, h1, h⟩ | ⟨h, _⟩
  · rw [h]; exact signed_len h1
  · rw [h]; simp
theorem right_len (k : Tk) (L : List Ch) : (Pt.rightC k L).2.length ≤ 2 := by
  rcases Pt.right_cases k L with ⟨M', c', t, e, h1, h⟩ | ⟨h, _⟩
  · rw [h]; exact signed_len h1
  · rw [h]; simp
theorem info52s : ∃ i, Tryd.prog.info? 52 = some i ∧ i.size = 3 := by
  obtain ⟨i, hi, hzz⟩ := Option.map_eq_some_iff.1 info52
  simp only [Prod.mk.injEq] at hzz
  exact ⟨i, hi, hzz.2.1⟩
theorem cutL {A : Option Addr} {c : Nat} {xs : List S52} (h1 : 1 ≤ xs.length) (hc : xs.length ≤ c) : ∃ A' : Option Addr, (∀ W : World, (Instr.slice 47 (.slice A xs.length c) (some (.int .i64 1)) none none).run Tryd.prog W = .ok (.slice A' (xs.drop 1).length (c - 1)) W) ∧
    (∀ w : World, Kd.C k52 w A xs.length xs → Kd.C k52 w A' (xs.drop 1).length (xs.drop 1)) ∧ (xs.drop 1).length ≤ c - 1 := by
  obtain ⟨i, hi, hs⟩ := info52s
  have hl : (xs.drop 1).length = xs.length - 1 := List.length_drop
  refine ⟨if c = 1 then A else A.map (·.add (1 * 3)), fun W => ?_, fun w h => Kd.C_drop h h1 hc, by omega⟩
  have hel : Tryd.prog.elem 47 = 52 := by simp [Program.elem, Tryd.underlying47]
  have hu : Tryd.prog.underlying 47 = some (.slice (Tryd.prog.elem 47)) := by rw [hel]; exact Tryd.underlying47
  rw [run_slice_l W 47 A xs.length c hu .i64 1 (by omega) (by omega), hel, hl]
  simp [sizeOf, typeInfo, hi, hs, sliced, Result.andThen]
theorem cutR {A : Option Addr} {c : Nat} {xs : List S52} {k : Nat} (h1 : k ≤ xs.length) (hc : xs.length ≤ c) : (∀ W : World, (Instr.slice 47 (.slice A xs.length c) none (some (.int .i64 (k : Int))) none).run Tryd.prog W = .ok (.slice A (xs.take k).length c) W) ∧
    (∀ w : World, Kd.C k52 w A xs.length xs → Kd.C k52 w A (xs.take k).length (xs.take k)) ∧ (xs.take k).length ≤ c := by
  have hl : (xs.take k).length = k := by rw [List.length_take]; omega
  refine ⟨fun W => ?_, fun w h => Kd.C_take h h1, by omega⟩
  have hel : Tryd.prog.elem 47 = 52 := by simp [Program.elem, Tryd.underlying47]
  have hu : Tryd.prog.underlying 47 = some (.slice (Tryd.prog.elem 47)) := by rw [hel]; exact Tryd.underlying47
  rw [run_slice_h W 47 A xs.length c hu .i64 k (by omega) (by omega), hel, hl]
  obtain ⟨i, hi, hs⟩ := info52s
  cases A <;> simp [sizeOf, typeInfo, hi, hs, sliced, Result.andThen, Addr.add]
/-- What a mask writes of a name. -/
def encN (m : Int) (s : ByteArray) : ByteArray := if m = 1 then s else strB (flat (encC (tkm m) (chars (tl s))))
def spec_NameEncode.f (m : Int) (s : ByteArray) : Option ByteArray := if s.size ≤ 1000000000 then some (encN m s) else none
set_option maxHeartbeats 4000000 in
set_option maxRecDepth 100000 in
theorem enc17 (m : Int) (s : ByteArray) (w : World) (hs : s.size ≤ 1000000000) :
    Calls Tryd.prog 17 #[.int .u64 m, .string s] w fun e w' => e = .returned (.string (encN m s)) ∧ Below w.heap.size w w' := by
  have hu52 := Tryd.underlying52
  have hu46 := Tryd.underlying46
  have hbw : ∀ os, Below w.heap.size w (w.alloc os) := fun os => (Below.refl _ w).alloc (Nat.le_refl _) _
  by_cases h1 : m = 1
  · have e1 : encN m s = s := by unfold encN; rw [if_pos h1]
    rw [e1]
    subst h1
    go_enter Tryd.func17, Tryd.ntmps17
    go_wp2
    go_ret
    exact ⟨rfl, hbw _⟩
  have eN : encN m s = strB (flat (encC (tkm m) (chars (tl s)))) := by unfold encN; rw [if_neg h1]
  have hm1 : (m == 1) = false := by rw [beq_eq_false_iff_ne]; exact h1
  by_cases hz : s.size = 0
  · have hse : s = ⟨#[]⟩ := by
      obtain ⟨⟨l⟩⟩ := s
      have : l = [] := List.eq_nil_of_length_eq_zero hz
      rw [this]
    have e1 : encN m s = ⟨#[]⟩ := by
      rw [eN, hse]
      have : dotC (tkm m) [] = none := by unfold dotC; split <;> rfl
      show strB (flat (encC (tkm m) [])) = _
      unfold encC
      rw [this]
      rfl
    rw [e1]
    subst hse
    go_enter Tryd.func17, Tryd.ntmps17
    go_wp2
    go_ret
    exact ⟨rfl, hbw _⟩
  have hse : (s.toList == []) = false := by rw [Sy.size_nil]; simpa using hz
  have hcD : ∀ j, cD m s j = ((Go.bits .and .u64 m 33554432 != 0) && (s.toList == dA j)) := fun _ => rfl
  have hdot : ∀ t, dotO m s = some t → encN m s = t := by
    intro t ht
    rw [dotO_is] at ht
    obtain ⟨t', h2, rfl⟩ := Option.map_eq_some_iff.1 ht
    rw [eN]
    unfold encC
    rw [h2]
  have hnone : dotO m s = none → dotC (tkm m) (chars (tl s)) = none := by
    intro ht
    rw [dotO_is] at ht
    exact Option.map_eq_none_iff.1 ht
  obtain ⟨hd, hhd⟩ : ∃ hd, (Go.bits .and .u64 m 33554432 != 0) = hd := ⟨_, rfl⟩
  go_enter Tryd.func17, Tryd.ntmps17
  go_wp2_with (go_at_call 36; refine (dots36' _).mono ?_; rintro e w1 ⟨rfl, hb0, hd0, hs0⟩)
  have hb1 : Below w.heap.size w w1 := (hbw _).trans (hb0.mono (hbw _).size)
  have hs1 : w1.heap.size = w.heap.size + 2 := by rw [hs0]; simp
  have hd1 : w1.heap[w.heap.size + 1]? = some (.cells dotCells 46 (0, 0)) := by simpa using hd0
  have hm1' : w1.heap[w.heap.size]? = some (.cells #[.int .u64 m] 22 (0, 0)) := by rw [hb0.block _ (by simp)]; exact heap_alloc_new w _
  clear hb0 hd0 hs0
  go_loopg [27] 4 (fun gf s27 wx => ∃ i : Nat, s27 = .int .i64 (i : Int) ∧ i ≤ 4 ∧ 4 ≤ i + gf ∧ Below w.heap.size w wx ∧ w.heap.size + 2 ≤ wx.heap.size ∧ wx.heap[w.heap.size]? = some (.cells #[.int .u64 m] 22 (0, 0)) ∧ wx.heap[w.heap.size + 1]? = some (.cells dotCells 46 (0, 0)) ∧ ∀ j, j < i → cD m s j = false)
  case atStart => exact ⟨0, rfl, by omega, by omega, hb1, by omega, hm1', hd1, fun j hj => by omega⟩
  case round =>
    clear hb1 hm1' hd1 hs1
    obtain ⟨i, rfl, hi, hfu, hb, hsz, hmm, hdd, hno⟩ := hrel
    by_cases hi4 : i = 4
    · subst hi4
      go_upto_region 9 with fail
      have hdn := hnone (dot_no hno)
      clear hno hcD hdot hnone hhd hdd hfu hi
      obtain ⟨L, hL⟩ : ∃ L, chars (tl s) = L := ⟨_, rfl⟩
      have hPr : Pr L := by rw [← hL]; exact Pt.pr_chars _
      have hLs : L.length ≤ s.size := by rw [← hL, ← tl_size]; exact chars_len _
      obtain ⟨c0, L0, rfl⟩ : ∃ c0 L0, L = c0 :: L0 := by
        cases L with
        | nil =>
          exfalso
          have h0 := Pt.flat_chars' (tl s)
          rw [hL] at h0
          have h2 := tl_size s
          rw [← h0] at h2
          exact hz h2.symm
        | cons c0 L0 => exact ⟨c0, L0, rfl⟩
      obtain ⟨L, hLL⟩ : ∃ L, c0 :: L0 = L := ⟨_, rfl⟩
      rw [hLL] at hL hPr hLs
      have hLne : 1 ≤ L.length := by rw [← hLL]; simp
      have hu : spec_Units.f s = some (L.map un) := by unfold spec_Units.f; rw [if_pos (by omega), hL]
      have eN2 : encN m s = strB (flat (leftC (tkm m) L).1 ++ flat ((Pt.rightC (tkm m) (leftC (tkm m) L).2).1.flatMap (betw (tkm m))) ++ flat (Pt.rightC (tkm m) (leftC (tkm m) L).2).2) := by
        rw [eN, hL]
        unfold encC
        rw [← hL, hdn, hL, Pt.flat_append, Pt.flat_append]
      have hlen : (L.map un).length = L.length := List.length_map _
      clear eN hdn
      go_upto_region 10 with (go_at_call 37; refine (spec_Units.calls s (L.map un) _ hu).mono ?_; rintro e w2 ⟨v2, rfl, hR2, hb2⟩; obtain ⟨A2, c2, rfl, hc2, hC2⟩ := Kd.R_reads hR2)
      have hcell2 : w2.cell? ⟨w.heap.size, 0, none⟩ = some (.int .u64 m) := (hb2.cell (p := ⟨w.heap.size, 0, none⟩) (by show w.heap.size < wr.heap.size; omega)).trans (by rw [Lib.cell_of_heap hmm]; rfl)
      have hB2 : Below w.heap.size w w2 := hb.trans (hb2.mono (by omega))
      have hz2 : w.heap.size + 2 ≤ w2.heap.size := Nat.le_trans hsz hb2.size
      obtain ⟨ad, rfl, y0, y1, y2⟩ := at_T52 hC2 0 (Int.le_refl _) (by rw [hlen]; omega)
      have hrd : rd_T52 (L.map un) 0 = un c0 := by rw [← hLL]; rfl
      rw [hrd] at y0 y1 y2
      simp only [Int.toNat_zero, Nat.zero_mul] at y0 y1 y2
      have had0 : ad.add 0 = ad := by simp [Addr.add]
      rw [had0] at y0 y1 y2
      have eg39 : ∀ args w, (callFunc 39 args).run Tryd.prog w = .ok (.enter 39 args) w := enters_of (c := Tryd.f39.body.getD .skip) Tryd.func39 (by kernel_rfl) (by kernel_rfl)
      have hgc : ∀ r, c0 = .g r → Pt.Good r := fun r e => by rw [← hLL, e] at hPr; exact hPr.1
      have cS := signed38 eg39 (pred39 hcell2) (tkm_ok m).l hgc
      unfold unV at cS
      obtain ⟨T0, hT0⟩ : ∃ x, (un c0).f0 = x := ⟨_, rfl⟩
      obtain ⟨C0, hC0⟩ : ∃ x, (un c0).f1 = x := ⟨_, rfl⟩
      obtain ⟨Bd0, hBd0⟩ : ∃ x, (un c0).f2 = x := ⟨_, rfl⟩
      rw [hT0, hC0, hBd0] at cS
      rw [hT0] at y0
      rw [hC0] at y1
      rw [hBd0] at y2
      have hi0 : (0 : Int) < (L.length : Int) := by omega
      clear hR2 hT0 hC0 hBd0 hrd
      go_upto_if 53 with (go_at_call 38; refine cS.mono ?_; rintro e w3 ⟨rfl, hb3⟩)
      have hC3 := Kd.C_below hC2 hb3
      have hB3 : Below w.heap.size w w3 := hB2.trans (hb3.mono (by omega))
      have hz3 : w.heap.size + 2 ≤ w3.heap.size := Nat.le_trans hz2 hb3.size
      have hcell3 : w3.cell? ⟨w.heap.size, 0, none⟩ = some (.int .u64 m) := (hb3.cell (p := ⟨w.heap.size, 0, none⟩) (by show w.heap.size < w2.heap.size; omega)).trans hcell2
      have hc2' : L.length ≤ c2 := by rw [← hlen]; exact hc2
      clear hC2 y0 y1 y2 cS hB2 hb2 hb3 hcell2 hz2 hb hmm hsz eg39
      go_cut [7, 8, 10, 11, 45, 50, 51, 52, 53] (fun v7 v8 _ _ _ _ _ _ _ wx => ∃ (A7 : Option Addr) (c7 : Nat), v7 = .slice A7 (leftC (tkm m) L).2.length c7 ∧ Kd.C k52 wx A7 ((leftC (tkm m) L).2.map un).length ((leftC (tkm m) L).2.map un) ∧ (leftC (tkm m) L).2.length ≤ c7 ∧ v8 = .string (strB (flat (leftC (tkm m) L).1)) ∧ wx = w3)
      case first =>
        have hlc : leftC (tkm m) (c0 :: L0) = match signed (tkm m).l c0 with
          | some t => (t, L0)
          | none => ([], c0 :: L0) := rfl
        cases hsg : signed (tkm m).l c0 with
        | none =>
          rw [hsg, hLL] at hlc
          rw [Option.isSome_none]
          clear hsg eN2 hLL
          go_wp2_with fail
          go_meet
          case rel => rw [hlc]; exact ⟨_, _, rfl, hC3, hc2', rfl, rfl⟩
        | some t =>
          have hV : sgV (tkm m).l c0 = strB (flat t) := by unfold sgV; rw [hsg]; rfl
          rw [hsg, hLL] at hlc
          rw [← hLL] at hC3 hc2
          obtain ⟨A', hcut, hcC, hcl⟩ := cutL (A := some ad) (c := c2) (xs := (c0 :: L0).map un) (by simp) hc2
          have hC4 := hcC _ hC3
          have hcut' : ∀ W : World, (Instr.slice 47 (.slice (some ad) L.length c2) (some (.int .i64 1)) none none).run Tryd.prog W = .ok (.slice A' L0.length (c2 - 1)) W := by
            intro W
            have := hcut W
            rw [hLL, hlen] at this
            rw [this]
            simp [← hLL]
          rw [Option.isSome_some, hV]
          obtain ⟨V, hVV⟩ : ∃ V, strB (flat t) = V := ⟨_, rfl⟩
          rw [hVV]
          clear hsg eN2 hV hcut hcC hC3 hPr hLL
          go_wp2_with fail
          go_meet
          case rel => rw [hlc]; exact ⟨_, _, rfl, by simpa using hC4, by simpa using hcl, by rw [hVV], rfl⟩
      case rest =>
        obtain ⟨A7, c7, rfl, hC7, hc7, rfl, hwc⟩ := hcut
        rw [hwc] at hC7 ⊢
        clear hwc hC3 hc2 hc2' hLL hlen
        have hPr2 : Pr (leftC (tkm m) L).2 := by
          rcases Pt.left_cases (tkm m) L with ⟨c', t, R', e, _, h⟩ | ⟨h, _⟩
          · rw [h]; subst e; exact Pt.pr_right (L := [c']) hPr
          · rw [h]; exact hPr
        have hRs : (leftC (tkm m) L).2.length ≤ L.length := by
          rcases Pt.left_cases (tkm m) L with ⟨c', t, R', e, _, h⟩ | ⟨h, _⟩
          · rw [h]; subst e; simp
          · rw [h]; exact Nat.le_refl _
        have hHs : (strB (flat (leftC (tkm m) L).1)).size ≤ 100 := by
          have h1 := left_len (tkm m) L
          have h2 := flat_len (leftC (tkm m) L).1
          have h3 : (strB (flat (leftC (tkm m) L).1)).size = _ := Sy.size_strB _
          omega
        obtain ⟨R, hR⟩ : ∃ R, (leftC (tkm m) L).2 = R := ⟨_, rfl⟩
        obtain ⟨V, hV⟩ : ∃ V, (leftC (tkm m) L).1 = V := ⟨_, rfl⟩
        rw [hR] at hC7 hc7 hPr2 hRs eN2
        rw [hV] at eN2 hHs
        rw [hR, hV]
        clear hR hV hPr hgc hi0 hLne
        have hlen : (R.map un).length = R.length := List.length_map _
        go_upto_if 60 with fail
        go_cut [7, 9, 12, 57, 58, 59, 60] (fun v7 v9 _ _ _ _ _ wx => ∃ (A9 : Option Addr) (c9 : Nat), v7 = .slice A9 (Pt.rightC (tkm m) R).1.length c9 ∧ Kd.C k52 wx A9 ((Pt.rightC (tkm m) R).1.map un).length ((Pt.rightC (tkm m) R).1.map un) ∧ (Pt.rightC (tkm m) R).1.length ≤ c9 ∧ v9 = .string (strB (flat (Pt.rightC (tkm m) R).2)) ∧ Below w3.heap.size w3 wx)
        case first =>
          by_cases hRn : R = []
          · subst hRn
            have e0 : Pt.rightC (tkm m) [] = ([], []) := rfl
            clear eN2
            go_wp2_with fail
            go_meet
            case rel => rw [e0]; exact ⟨_, _, rfl, hC7, hc7, rfl, Below.refl _ _⟩
          · obtain ⟨M, c, rfl⟩ : ∃ M c, R = M ++ [c] := ⟨R.dropLast, R.getLast hRn, (List.dropLast_concat_getLast hRn).symm⟩
            have hrc : Pt.rightC (tkm m) (M ++ [c]) = match signed (tkm m).r c with
              | some t => (M, t)
              | none => (M ++ [c], []) := by
              unfold Pt.rightC
              rw [List.getLast?_concat]
              dsimp only
              rw [List.dropLast_concat]
              try (cases signed (tkm m).r c <;> rfl)
            have hMl : (M ++ [c]).length = M.length + 1 := by simp
            obtain ⟨n1, hn1⟩ : ∃ n1, (M ++ [c]).length = n1 := ⟨_, rfl⟩
            have hn1' : n1 = M.length + 1 := by omega
            obtain ⟨ad, rfl, y0, y1, y2⟩ := at_T52 hC7 (M.length : Int) (by omega) (by rw [hlen]; omega)
            have hrd : rd_T52 ((M ++ [c]).map un) (M.length : Int) = un c := by simp [rd_T52]
            rw [hrd] at y0 y1 y2
            simp only [Int.toNat_natCast] at y0 y1 y2
            have eg41 : ∀ args w, (callFunc 41 args).run Tryd.prog w = .ok (.enter 41 args) w := enters_of (c := Tryd.f41.body.getD .skip) Tryd.func41 (by kernel_rfl) (by kernel_rfl)
            have hgc : ∀ r, c = .g r → Pt.Good r := fun r e => by have := Pt.pr_right hPr2; rw [e] at this; exact this.1
            have cS := signed38 eg41 (pred41 hcell3) (tkm_ok m).r hgc
            unfold unV at cS
            obtain ⟨T0, hT0⟩ : ∃ x, (un c).f0 = x := ⟨_, rfl⟩
            obtain ⟨C0, hC0⟩ : ∃ x, (un c).f1 = x := ⟨_, rfl⟩
            obtain ⟨Bd0, hBd0⟩ : ∃ x, (un c).f2 = x := ⟨_, rfl⟩
            rw [hT0, hC0, hBd0] at cS
            rw [hT0] at y0
            rw [hC0] at y1
            rw [hBd0] at y2
            have hw1 : wrap64 ((n1 : Int) - 1) = (M.length : Int) := by rw [hn1']; exact w64m (by omega)
            have hlt : (M.length : Int) < (n1 : Int) := by omega
            have h0l : (0 : Int) ≤ (M.length : Int) := by omega
            have hpos : (n1 : Int) > 0 := by omega
            rw [hlen, hn1] at hC7
            rw [hn1] at hc7
            rw [hn1]
            obtain ⟨lM, hlM⟩ : ∃ lM, M.length = lM := ⟨_, rfl⟩
            rw [hlM] at y0 y1 y2 hw1 hlt h0l
            have hkl : lM ≤ ((M ++ [c]).map un).length := by rw [hlen, hn1]; omega
            obtain ⟨hcut0, hcC, hcl⟩ := cutR (A := some ad) (c := c7) (xs := (M ++ [c]).map un) hkl (by rw [hlen, hn1]; exact hc7)
            have htk : ((M ++ [c]).map un).take lM = M.map un := by rw [List.map_append, ← hlM, ← List.length_map (f := un), List.take_left]
            have hcut1 : ∀ W : World, (Instr.slice 47 (.slice (some ad) n1 c7) none (some (.int .i64 (lM : Int))) none).run Tryd.prog W = .ok (.slice (some ad) lM c7) W := by
              intro W
              have := hcut0 W
              rw [htk, hlen, hn1, List.length_map, hlM] at this
              exact this
            have hC7' := hC7
            rw [← hn1, ← hlen] at hC7'
            have hC8 := hcC _ hC7'
            rw [htk, List.length_map, hlM] at hC8
            rw [htk, List.length_map, hlM] at hcl
            have hMu : (M.map un).length = M.length := List.length_map _
            clear hT0 hC0 hBd0 hrd hRn eN2 hn1' hRs hMl hcut0 hcC htk hC7' hkl
            cases hsg : signed (tkm m).r c with
            | none =>
              rw [hsg] at hrc
              rw [hsg, Option.isSome_none] at cS
              clear hsg
              go_wp2_with (go_at_call 38; refine cS.mono ?_; rintro e w4 ⟨rfl, hb4⟩)
              go_meet
              case rel => rw [hrc]; exact ⟨_, _, by rw [hn1], by dsimp only; rw [hlen, hn1]; exact Kd.C_below hC7 hb4, by dsimp only; rw [hn1]; exact hc7, rfl, hb4⟩
            | some t =>
              have hVr : sgV (tkm m).r c = strB (flat t) := by unfold sgV; rw [hsg]; rfl
              rw [hsg] at hrc
              rw [hsg, Option.isSome_some, hVr] at cS
              obtain ⟨V2, hVV⟩ : ∃ V2, strB (flat t) = V2 := ⟨_, rfl⟩
              rw [hVV] at cS
              clear hsg hVr
              go_wp2_with (go_at_call 38; refine cS.mono ?_; rintro e w4 ⟨rfl, hb4⟩)
              go_meet
              case rel => rw [hrc]; exact ⟨_, _, by dsimp only; rw [hlM], by dsimp only; rw [hMu, hlM]; exact Kd.C_below hC8 hb4, by dsimp only; rw [hlM]; exact hcl, by rw [hVV], hb4⟩
        case rest =>
          obtain ⟨A9, c9, rfl, hC9, hc9, rfl, hb9⟩ := hcut
          have hB9 : Below w.heap.size w wc := hB3.trans (hb9.mono (by omega))
          have hz9 : w.heap.size + 2 ≤ wc.heap.size := Nat.le_trans hz3 hb9.size
          have hcell9 : wc.cell? ⟨w.heap.size, 0, none⟩ = some (.int .u64 m) := (hb9.cell (p := ⟨w.heap.size, 0, none⟩) (by show w.heap.size < w3.heap.size; omega)).trans hcell3
          have hPr9 : Pr (Pt.rightC (tkm m) R).1 := by
            rcases Pt.right_cases (tkm m) R with ⟨M', c', t, e, _, h⟩ | ⟨h, _⟩
            · rw [h]; subst e; exact Pt.pr_left hPr2
            · rw [h]; exact hPr2
          have hRs9 : (Pt.rightC (tkm m) R).1.length ≤ R.length := by
            rcases Pt.right_cases (tkm m) R with ⟨M', c', t, e, _, h⟩ | ⟨h, _⟩
            · rw [h]; subst e; simp
            · rw [h]; exact Nat.le_refl _
          have hTs : (flat (Pt.rightC (tkm m) R).2).length ≤ 100 := by
            have h1 := right_len (tkm m) R
            have h2 := flat_len (Pt.rightC (tkm m) R).2
            omega
          obtain ⟨D, hD⟩ : ∃ D, (Pt.rightC (tkm m) R).1 = D := ⟨_, rfl⟩
          obtain ⟨T, hT⟩ : ∃ T, (Pt.rightC (tkm m) R).2 = T := ⟨_, rfl⟩
          rw [hD] at hC9 hc9 hPr9 hRs9 eN2
          rw [hT] at eN2 hTs
          rw [hD, hT]
          have hlen9 : (D.map un).length = D.length := List.length_map _
          clear hD hT hC7 hc7 hlen hPr2 hb9 hB3 hz3 hcell3
          obtain ⟨Vb, hVb⟩ : ∃ Vb, flat V = Vb := ⟨_, rfl⟩
          obtain ⟨Tb, hTb⟩ : ∃ Tb, flat T = Tb := ⟨_, rfl⟩
          rw [hVb] at eN2 hHs
          rw [hTb] at eN2 hTs
          rw [hVb, hTb]
          obtain ⟨Vs, hVs⟩ : ∃ Vs, strB Vb = Vs := ⟨_, rfl⟩
          obtain ⟨Ts, hTs'⟩ : ∃ Ts, strB Tb = Ts := ⟨_, rfl⟩
          rw [hVs] at hHs
          rw [hVs, hTs']
          have hcv : (convert 9 23 (.string Vs)).run Tryd.prog wc = _ := Lib.run_convert_string_bytes wc 9 23 5 Vs Tryd.underlying9 Tryd.underlying23 Tryd.underlying5
          have hO5 := bytesG wc Vs (Nat.le_refl wc.heap.size) (by omega)
          have hb5 := belowG wc Vs (Below.refl wc.heap.size wc) (Nat.le_refl _)
          obtain ⟨W5, hW5⟩ : ∃ W5, Lib.bytesWorld wc 5 Vs = W5 := ⟨_, rfl⟩
          obtain ⟨g5, hg5⟩ : ∃ g5, grownCap wc Vs.size 0 5 = g5 := ⟨_, rfl⟩
          rw [hW5, hg5] at hcv hO5
          rw [hW5] at hb5
          clear hW5 hg5
          have hcc : ∀ l : List UInt8, Lib.strCells (strB l) = l.map fun b => Value.int .u8 (b.toNat : Int) := fun l => by simp [Lib.strCells, strB]
          have hO5 : OwnG W5 wc.heap.size (.slice (some ⟨wc.heap.size, 0, none⟩) Vs.size g5) (Vb.map fun b => Value.int .u8 (b.toNat : Int)) := by rw [← hcc Vb, hVs]; exact hO5
          go_wp2_with fail
          clear hcv
          go_loopg [15, 81] D.length (fun gf s15 s81 wx => ∃ (i : Nat) (out : List UInt8), s81 = .int .i64 (i : Int) ∧ i ≤ D.length ∧ D.length ≤ i + gf ∧ OwnG wx wc.heap.size s15 (out.map fun b => Value.int .u8 (b.toNat : Int)) ∧ Below wc.heap.size wc wx ∧ out.length ≤ 100 + 20 * i ∧ Hid (out ++ flat ((D.drop i).flatMap (betw (tkm m))) = Vb ++ flat (D.flatMap (betw (tkm m)))))
          case atStart => exact ⟨0, Vb, rfl, Nat.zero_le _, by omega, hO5, hb5, by rw [← hVs] at hHs; have : (strB Vb).size = Vb.length := Sy.size_strB _; omega, Lib.hid (by rw [List.drop_zero])⟩
          case round =>
            clear hO5 hb5 hHs
            obtain ⟨i, out, rfl, hi, hfu, hO, hbx, hol, hH⟩ := hrel
            have hCx := Kd.C_below hC9 hbx
            have hcellx : wr.cell? ⟨w.heap.size, 0, none⟩ = some (.int .u64 m) := (hbx.cell (p := ⟨w.heap.size, 0, none⟩) (by show w.heap.size < wc.heap.size; omega)).trans hcell9
            by_cases hin : i = D.length
            · subst hin
              have hfin := hH.out
              rw [List.drop_length] at hfin
              have hfin2 : out ++ Tb = Vb ++ flat (D.flatMap (betw (tkm m))) ++ Tb := by
                rw [← hfin]
                simp [flat]
              have hT5 : Ts.size ≤ 100 := by rw [← hTs']; have : (strB Tb).size = Tb.length := Sy.size_strB _; omega
              have hTc : Lib.strCells Ts = Tb.map fun b => Value.int .u8 (b.toNat : Int) := by rw [← hTs', hcc]
              clear hH hfin hC9 hCx hcell9 hcellx hPr9 hTs
              go_wp2_with (first | ((with_reducible refine gate_builtin (b := .append) (xs := #[.tmp 91, .tmp 92]) rfl ?_); at_builtin; refine wpAppendG rfl (.tmp 91) (.tmp 92) rfl wc.heap.size rfl hO Ts rfl ?len hbx.size ?_; (case len => rw [List.length_map]; omega); intro v1 w1 hO1 hg1; (first | rw [hTc, ← List.map_append] at hO1 | rw [← List.map_append] at hO1); have htx := textG hO1; have hbz : Below wc.heap.size wc w1 := hbx.grown hg1 hbx.size (fun k hk => (hO.lt k hk).1)))
              go_ret
              exact ⟨by rw [eN2, List.append_assoc]; rfl, hB9.trans (hbz.mono (by omega))⟩
            · obtain ⟨g', rfl⟩ : ∃ g', gk = g' + 1 := ⟨gk - 1, by omega⟩
              have hlt : i < D.length := by omega
              have hi64 : i + 1 ≤ 9223372036854775807 := by omega
              have h0l : (0 : Int) ≤ (i : Int) := by omega
              have hltz : (i : Int) < (D.length : Int) := by omega
              have hob : out.length + 20 ≤ 140737488355328 := by omega
              have hol2 : out.length + 20 ≤ 100 + 20 * (i + 1) := by omega
              have hfu2 : D.length ≤ i + 1 + g' := by omega
              have hbs := hbx.size
              have hws : w.heap.size < wr.heap.size := by omega
              clear hol hfu hi
              obtain ⟨c, hc⟩ : ∃ c, D[i] = c := ⟨_, rfl⟩
              obtain ⟨ad, rfl, y0, y1, y2⟩ := at_T52 hCx (i : Int) (by omega) (by rw [hlen9]; omega)
              have hrd : rd_T52 (D.map un) (i : Int) = un c := by simp [rd_T52, hlt, hc]
              rw [hrd] at y0 y1 y2
              simp only [Int.toNat_natCast] at y0 y1 y2
              have hgc : ∀ r, c = .g r → Pt.Good r := by
                intro r e
                have h2 : Pr (D.drop i) := Pt.pr_right (L := D.take i) (by rw [List.take_append_drop]; exact hPr9)
                rw [List.drop_eq_getElem_cons hlt, hc, e] at h2
                exact h2.1
              have hH2 := hH.out
              rw [List.drop_eq_getElem_cons hlt, hc, List.flatMap_cons, Pt.flat_append, ← List.append_assoc] at hH2
              have cS := fun W => between43 m W hgc
              unfold unV at cS
              obtain ⟨T0, hT0⟩ : ∃ x, (un c).f0 = x := ⟨_, rfl⟩
              obtain ⟨C0, hC0⟩ : ∃ x, (un c).f1 = x := ⟨_, rfl⟩
              obtain ⟨Bd0, hBd0⟩ : ∃ x, (un c).f2 = x := ⟨_, rfl⟩
              obtain ⟨Bt, hBt⟩ : ∃ x, flat (betw (tkm m) c) = x := ⟨_, rfl⟩
              have hBtl : Bt.length ≤ 20 := by rw [← hBt]; exact betw_len _ _
              rw [hBt] at hH2
              rw [hT0, hC0, hBd0, hBt] at cS
              rw [hT0] at y0
              rw [hC0] at y1
              rw [hBd0] at y2
              clear hT0 hC0 hBd0
              have hcb : Lib.strCells (strB Bt) = Bt.map fun b => Value.int .u8 (b.toNat : Int) := hcc _
              have hBs : (strB Bt).size = Bt.length := Sy.size_strB _
              obtain ⟨Bs, hBs'⟩ : ∃ x, strB Bt = x := ⟨_, rfl⟩
              rw [hBs'] at cS hcb hBs
              have hcx2 : ∀ o, (wr.alloc o).cell? ⟨w.heap.size, 0, none⟩ = some (.int .u64 m) := fun o => ((below_alloc (Below.refl _ wr) o).cell (p := ⟨w.heap.size, 0, none⟩) (by exact hws)).trans hcellx
              have hbx2 : ∀ o, Below wc.heap.size wc (wr.alloc o) := fun o => hbx.alloc hbx.size o
              have hOx : ∀ o, OwnG (wr.alloc o) wc.heap.size u15 (out.map fun b => Value.int .u8 (b.toNat : Int)) := fun o => hO.below (below_alloc (Below.refl _ wr) o)
              have hw1 : wrap64 ((i : Int) + 1) = ((i + 1 : Nat) : Int) := w64n (p := i) (k := 1) hi64
              have q1 := Lib.hid hob; have q2 := Lib.hid hol2; have q3 := Lib.hid hfu2; have q4 := Lib.hid hBtl; have q5 := Lib.hid hlt; have q6 := Lib.hid hBs
              clear hob hol2 hfu2 hBtl hbs hws hi64 hBs hlen9 hc9 hRs9 hTs hRs hLs hs
              clear hrd hH hc hBt eN2 hcc hC9 hPr9 hgc
              go_wp2_with (first | (go_at_call 43; refine (cS _).mono ?_; rintro e w7 ⟨rfl, hb7⟩; have hO7 := (hOx _).below hb7; have hbx7 := (hbx2 _).trans (hb7.mono (hbx2 _).size)) | ((with_reducible refine gate_builtin (b := .append) (xs := #[.tmp 85, .tmp 88]) rfl ?_); at_builtin; refine wpAppendG rfl (.tmp 85) (.tmp 88) rfl wc.heap.size rfl hO7 Bs rfl ?len hbx7.size ?_; (case len => rw [List.length_map, q6.out]; exact Nat.le_trans (Nat.add_le_add_left q4.out _) q1.out); intro v1 w1 hO1 hg1; (first | rw [hcb, ← List.map_append] at hO1 | rw [← List.map_append] at hO1); have hbz : Below wc.heap.size wc w1 := hbx7.grown hg1 hbx7.size (fun k hk => (hO7.lt k hk).1)))
              go_roundg g'
              case measure => exact Nat.lt_succ_self _
              case rel => exact ⟨i + 1, out ++ Bt, by first | rfl | rw [hw1], q5.out, q3.out, hO1, hbz, by rw [List.length_append]; exact Nat.le_trans (Nat.add_le_add_left q4.out _) q2.out, Lib.hid hH2⟩
    · obtain ⟨g', rfl⟩ : ∃ g', gk = g' + 1 := ⟨gk - 1, by omega⟩
      have hi4' : (i : Int) < 4 := by omega
      have hn := hno
      have hcell : wr.cell? ⟨w.heap.size, 0, none⟩ = some (.int .u64 m) := by rw [Lib.cell_of_heap hmm]; rfl
      have hcell2 : ∀ o, (wr.alloc o).cell? ⟨w.heap.size, 0, none⟩ = some (.int .u64 m) := fun o => ((below_alloc (Below.refl _ wr) o).cell (p := ⟨w.heap.size, 0, none⟩) (by show w.heap.size < wr.heap.size; omega)).trans hcell
      have hbx : ∀ o, Below w.heap.size w (wr.alloc o) := fun o => hb.alloc (by omega) o
      rcases (show i = 0 ∨ i = 1 ∨ i = 2 ∨ i = 3 by omega) with rfl | rfl | rfl | rfl
      · have x0 : wr.cell? ⟨w.heap.size + 1, 0, none⟩ = some (.string ⟨#[46]⟩) := by rw [Lib.cell_of_heap hdd]; rfl
        have x1 : wr.cell? ⟨w.heap.size + 1, 1, none⟩ = some (.string ⟨#[239, 188, 142]⟩) := by rw [Lib.cell_of_heap hdd]; rfl
        have q := hcD 0
        rw [hhd] at q
        cases hd with
        | true =>
          cases hq : (s.toList == dA 0) with
          | true =>
            have hq' : (s.toList == [46]) = true := hq
            rw [hq] at q
            have hfin := hdot _ (dot_hit (by omega) hno q)
            clear q hq hno hn hdot hnone hcD
            go_wp2
            go_ret
            exact ⟨by rw [hfin]; rfl, hbx _⟩
          | false =>
            have hq' : (s.toList == [46]) = false := hq
            rw [hq] at q
            have hno' : ∀ j, j < 1 → cD m s j = false := fun j hj => by
              rcases (show j < 0 ∨ j = 0 by omega) with h | rfl
              · exact hno j h
              · exact q
            have hcast : wrap64 (((0 : Nat) : Int) + 1) = ((1 : Nat) : Int) := w64n (p := 0) (k := 1) (by omega)
            clear q hno hn hdot hnone hcD
            go_wp2
            go_roundg g'
            case measure => omega
            case rel => exact ⟨1, rfl, by omega, by omega, hbx _, by simp; omega, by rw [heap_alloc_old wr _ (by omega)]; exact hmm, by rw [heap_alloc_old wr _ (by omega)]; exact hdd, hno'⟩
        | false =>
            rw [Bool.false_and] at q
            have hno' : ∀ j, j < 1 → cD m s j = false := fun j hj => by
              rcases (show j < 0 ∨ j = 0 by omega) with h | rfl
              · exact hno j h
              · exact q
            have hcast : wrap64 (((0 : Nat) : Int) + 1) = ((1 : Nat) : Int) := w64n (p := 0) (k := 1) (by omega)
            clear q hno hn hdot hnone hcD
            go_wp2
            go_roundg g'
            case measure => omega
            case rel => exact ⟨1, rfl, by omega, by omega, hbx _, by simp; omega, by rw [heap_alloc_old wr _ (by omega)]; exact hmm, by rw [heap_alloc_old wr _ (by omega)]; exact hdd, hno'⟩
      · have x0 : wr.cell? ⟨w.heap.size + 1, 2, none⟩ = some (.string ⟨#[46, 46]⟩) := by rw [Lib.cell_of_heap hdd]; rfl
        have x1 : wr.cell? ⟨w.heap.size + 1, 3, none⟩ = some (.string ⟨#[239, 188, 142, 239, 188, 142]⟩) := by rw [Lib.cell_of_heap hdd]; rfl
        have q := hcD 1
        rw [hhd] at q
        cases hd with
        | true =>
          cases hq : (s.toList == dA 1) with
          | true =>
            have hq' : (s.toList == [46, 46]) = true := hq
            rw [hq] at q
            have hfin := hdot _ (dot_hit (by omega) hno q)
            clear q hq hno hn hdot hnone hcD
            go_wp2
            go_ret
            exact ⟨by rw [hfin]; rfl, hbx _⟩
          | false =>
            have hq' : (s.toList == [46, 46]) = false := hq
            rw [hq] at q
            have hno' : ∀ j, j < 2 → cD m s j = false := fun j hj => by
              rcases (show j < 1 ∨ j = 1 by omega) with h | rfl
              · exact hno j h
              · exact q
            have hcast : wrap64 (((1 : Nat) : Int) + 1) = ((2 : Nat) : Int) := w64n (p := 1) (k := 1) (by omega)
            clear q hno hn hdot hnone hcD
            go_wp2
            go_roundg g'
            case measure => omega
            case rel => exact ⟨2, rfl, by omega, by omega, hbx _, by simp; omega, by rw [heap_alloc_old wr _ (by omega)]; exact hmm, by rw [heap_alloc_old wr _ (by omega)]; exact hdd, hno'⟩
        | false =>
            rw [Bool.false_and] at q
            have hno' : ∀ j, j < 2 → cD m s j = false := fun j hj => by
              rcases (show j < 1 ∨ j = 1 by omega) with h | rfl
              · exact hno j h
              · exact q
            have hcast : wrap64 (((1 : Nat) : Int) + 1) = ((2 : Nat) : Int) := w64n (p := 1) (k := 1) (by omega)
            clear q hno hn hdot hnone hcD
            go_wp2
            go_roundg g'
            case measure => omega
            case rel => exact ⟨2, rfl, by omega, by omega, hbx _, by simp; omega, by rw [heap_alloc_old wr _ (by omega)]; exact hmm, by rw [heap_alloc_old wr _ (by omega)]; exact hdd, hno'⟩
      · have x0 : wr.cell? ⟨w.heap.size + 1, 4, none⟩ = some (.string ⟨#[239, 188, 142]⟩) := by rw [Lib.cell_of_heap hdd]; rfl
        have x1 : wr.cell? ⟨w.heap.size + 1, 5, none⟩ = some (.string ⟨#[226, 128, 155, 239, 188, 142]⟩) := by rw [Lib.cell_of_heap hdd]; rfl
        have q := hcD 2
        rw [hhd] at q
        cases hd with
        | true =>
          cases hq : (s.toList == dA 2) with
          | true =>
            have hq' : (s.toList == [239, 188, 142]) = true := hq
            rw [hq] at q
            have hfin := hdot _ (dot_hit (by omega) hno q)
            clear q hq hno hn hdot hnone hcD
            go_wp2
            go_ret
            exact ⟨by rw [hfin]; rfl, hbx _⟩
          | false =>
            have hq' : (s.toList == [239, 188, 142]) = false := hq
            rw [hq] at q
            have hno' : ∀ j, j < 3 → cD m s j = false := fun j hj => by
              rcases (show j < 2 ∨ j = 2 by omega) with h | rfl
              · exact hno j h
              · exact q
            have hcast : wrap64 (((2 : Nat) : Int) + 1) = ((3 : Nat) : Int) := w64n (p := 2) (k := 1) (by omega)
            clear q hno hn hdot hnone hcD
            go_wp2
            go_roundg g'
            case measure => omega
            case rel => exact ⟨3, rfl, by omega, by omega, hbx _, by simp; omega, by rw [heap_alloc_old wr _ (by omega)]; exact hmm, by rw [heap_alloc_old wr _ (by omega)]; exact hdd, hno'⟩
        | false =>
            rw [Bool.false_and] at q
            have hno' : ∀ j, j < 3 → cD m s j = false := fun j hj => by
              rcases (show j < 2 ∨ j = 2 by omega) with h | rfl
              · exact hno j h
              · exact q
            have hcast : wrap64 (((2 : Nat) : Int) + 1) = ((3 : Nat) : Int) := w64n (p := 2) (k := 1) (by omega)
            clear q hno hn hdot hnone hcD
            go_wp2
            go_roundg g'
            case measure => omega
            case rel => exact ⟨3, rfl, by omega, by omega, hbx _, by simp; omega, by rw [heap_alloc_old wr _ (by omega)]; exact hmm, by rw [heap_alloc_old wr _ (by omega)]; exact hdd, hno'⟩
      · have x0 : wr.cell? ⟨w.heap.size + 1, 6, none⟩ = some (.string ⟨#[239, 188, 142, 239, 188, 142]⟩) := by rw [Lib.cell_of_heap hdd]; rfl
        have x1 : wr.cell? ⟨w.heap.size + 1, 7, none⟩ = some (.string ⟨#[226, 128, 155, 239, 188, 142, 226, 128, 155, 239, 188, 142]⟩) := by rw [Lib.cell_of_heap hdd]; rfl
        have q := hcD 3
        rw [hhd] at q
        cases hd with
        | true =>
          cases hq : (s.toList == dA 3) with
          | true =>
            have hq' : (s.toList == [239, 188, 142, 239, 188, 142]) = true := hq
            rw [hq] at q
            have hfin := hdot _ (dot_hit (by omega) hno q)
            clear q hq hno hn hdot hnone hcD
            go_wp2
            go_ret
            exact ⟨by rw [hfin]; rfl, hbx _⟩
          | false =>
            have hq' : (s.toList == [239, 188, 142, 239, 188, 142]) = false := hq
            rw [hq] at q
            have hno' : ∀ j, j < 4 → cD m s j = false := fun j hj => by
              rcases (show j < 3 ∨ j = 3 by omega) with h | rfl
              · exact hno j h
              · exact q
            have hcast : wrap64 (((3 : Nat) : Int) + 1) = ((4 : Nat) : Int) := w64n (p := 3) (k := 1) (by omega)
            clear q hno hn hdot hnone hcD
            go_wp2
            go_roundg g'
            case measure => omega
            case rel => exact ⟨4, rfl, by omega, by omega, hbx _, by simp; omega, by rw [heap_alloc_old wr _ (by omega)]; exact hmm, by rw [heap_alloc_old wr _ (by omega)]; exact hdd, hno'⟩
        | false =>
            rw [Bool.false_and] at q
            have hno' : ∀ j, j < 4 → cD m s j = false := fun j hj => by
              rcases (show j < 3 ∨ j = 3 by omega) with h | rfl
              · exact hno j h
              · exact q
            have hcast : wrap64 (((3 : Nat) : Int) + 1) = ((4 : Nat) : Int) := w64n (p := 3) (k := 1) (by omega)
            clear q hno hn hdot hnone hcD
            go_wp2
            go_roundg g'
            case measure => omega
            case rel => exact ⟨4, rfl, by omega, by omega, hbx _, by simp; omega, by rw [heap_alloc_old wr _ (by omega)]; exact hmm, by rw [heap_alloc_old wr _ (by omega)]; exact hdd, hno'⟩
end Go.Proofs.YtonmnpmklkbioaaDoor.Given
