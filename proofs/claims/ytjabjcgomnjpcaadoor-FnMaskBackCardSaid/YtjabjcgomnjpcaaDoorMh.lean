/- MultiEncoder.String: the walk. -/
import Derived.Test.YtjabjcgomnjpcaaDoorMg
namespace Go.Proofs.YtjabjcgomnjpcaaDoor.Given
open Go.RowKit Go.Proofs.YtjabjcgomnjpcaaDoorW.PrintWords Go.Proofs.YtjabjcgomnjpcaaDoorW.PrintLast Go.Proofs.YtjabjcgomnjpcaaDoorW.PrintMore Go.Proofs.YtjabjcgomnjpcaaDoor.PM
open Go.Proofs.YtjabjcgomnjpcaaDoor.Zp
set_option linter.unusedVariables false
set_option linter.unusedSimpArgs false

/-- A row of pieces: its cells, in whatever world behind. -/
theorem row_cellH {w : World} {base g n cap : Nat} {L : List (List UInt8)} (h : w.ownsRow base 9 1 (.slice (some ⟨g, 0, none⟩) n cap) n (encs encP L)) {i : Nat} {x : List UInt8} (hi : L[i]? = some x) {W : World} (hb : Below w.heap.size w W) : W.cell? ⟨g, i, none⟩ = some (.string (strB x)) := by
  have hl : L.length = n := by have := h.1; simp [encs] at this; exact this
  have hil : i < L.length := (List.getElem?_eq_some_iff.1 hi).1
  have h1 := (own_at_of (d := []) h (i : Int) (by omega) (by omega)).1
  rw [Int.toNat_natCast] at h1
  have h2 : rdOf [] L (i : Int) = x := by
    show L.getD i [] = x
    simp [List.getD, hi]
  rw [h2] at h1
  exact (hb.cell (World.block_lt_of_cell? w _ h1)).trans h1
theorem join_len (L : List (List UInt8)) (h : ∀ x ∈ L, x.length ≤ 100) : (Lib.join L [44]).length ≤ 101 * L.length := by
  unfold Lib.join
  induction L with
  | nil => exact Nat.le_refl _
  | cons x L ih =>
    have hx := h x (List.mem_cons_self ..)
    have ih2 := ih (fun y hy => h y (List.mem_cons_of_mem _ hy))
    cases L with
    | nil => simp [List.intercalate]; omega
    | cons y L =>
      have e : [44].intercalate (x :: y :: L) = x ++ [44] ++ [44].intercalate (y :: L) := by simp [List.intercalate]
      rw [e, List.length_append, List.length_append]
      simp only [List.length_cons, List.length_nil] at ih2 ⊢
      omega
theorem join_row {W : World} {base : Nat} {v : Value} {L : List (List UInt8)} (HO : W.ownsRow base 9 1 v L.length (encs encP L)) (h1 : L.length ≤ 64) (h2 : ∀ x ∈ L, x.length ≤ 100) :
    Calls Tryd.prog 18 #[v, .string ⟨#[44]⟩] W fun e w' => e = .returned (.string (strB (Lib.join L [44]))) ∧ Below W.heap.size W w' := by
  have HO' := HO
  rcases HO.2 with ⟨rfl, h0⟩ | ⟨g, cap, cur, rfl, hbg, hg, hnc, hcm, hcs, htake⟩
  · have : L = [] := List.length_eq_zero_iff.1 h0
    subst this
    refine (Any.strings_Join_none Laid.L_n156 Laid.L_bx none 0 ⟨#[44]⟩ W).mono ?_
    rintro e w' ⟨rfl, rfl⟩
    exact ⟨rfl, Below.refl _ _⟩
  · have e1 : (L.map strB).length = L.length := List.length_map ..
    have e2 : (L.map strB).map (·.data.toList) = L := by
      rw [List.map_map]
      conv => rhs; rw [← List.map_id L]
      rfl
    have hj := Laid.join18 g 0 cap (L.map strB) ⟨#[44]⟩ W (fun j x hx => by
      rw [Nat.zero_add]
      rw [List.getElem?_map, Option.map_eq_some_iff] at hx
      obtain ⟨y, hy, rfl⟩ := hx
      exact row_cellH HO' hy (Below.refl _ _)) (by
      exact (Array.getElem?_eq_some_iff.1 hg).1) (by rw [e1]; omega) (by rw [e1]; omega) (by
      rw [e2]
      have := join_len L h2
      show (Lib.join L [44]).length ≤ _
      omega)
    rw [e1, e2] at hj
    exact hj
theorem name15 (a : Int) (l : List UInt8) (b : Bool) (w : World) (h : encoder_encodingToName.f a = some (strB l, b)) : Calls Tryd.prog 15 #[.int .u64 a] w fun e w' => e = .returned (.tuple #[.string (strB l), .bool b]) ∧ Below w.heap.size w w' := by
  refine (encoder_encodingToName.calls a (strB l) b w h).mono ?_
  rintro e w' ⟨rfl, n, rfl⟩
  exact ⟨rfl, below_drewN' (Below.refl _ _) n⟩
theorem and_pow (m k : Nat) : m &&& 2 ^ k = if m.testBit k = true then 2 ^ k else 0 := by
  apply Nat.eq_of_testBit_eq
  intro i
  rw [Nat.testBit_and, Nat.testBit_two_pow]
  by_cases h : k = i
  · subst h
    cases hb : m.testBit k <;> simp [Nat.testBit_two_pow]
  · rw [decide_eq_false h, Bool.and_false]
    split
    · rw [Nat.testBit_two_pow, decide_eq_false h]
    · rw [Nat.zero_testBit]
theorem nms_step (m k : Nat) (hk : k < 64) : nmsF m (64 - k) k = (if m.testBit k then [bitNm k] else []) ++ nmsF m (64 - (k + 1)) (k + 1) := by
  obtain ⟨f, hf⟩ : ∃ f, 64 - k = f + 1 := ⟨63 - k, by omega⟩
  rw [hf, show 64 - (k + 1) = f by omega]
  conv => lhs; unfold nmsF
  split <;> rfl
set_option maxHeartbeats 4000000 in
set_option maxRecDepth 100000 in
theorem string11 (m : Nat) (w : World) (hm : m < 2 ^ 64) (h : Dv w) : Calls Tryd.prog 11 #[.int .u64 (m : Int)] w fun e w' => e = .returned (.string (strB (textM m))) ∧ Below w.heap.size w w' := by
  obtain ⟨l, b, hf, hl⟩ := name_tot (m : Int)
  have c15 := fun W => name15 (m : Int) l b W hf
  have htx : textM m = if b = true then l else Lib.join (nmsF m 64 0) [44] := by
    unfold textM nmB
    rw [hf]
    cases b with
    | true => show tl (strB l) = l; rw [tl_strB]
    | false => rfl
  obtain ⟨R, hR⟩ : ∃ R, textM m = R := ⟨_, rfl⟩
  rw [hR] at htx ⊢
  clear hf hl hR
  cases b with
  | true =>
    rw [if_pos rfl] at htx
    subst htx
    go_enter Tryd.func11, Tryd.ntmps11
    go_wp2_with (go_at_call 15; refine (c15 _).mono ?_; rintro e w1 ⟨rfl, h1⟩)
    go_ret
    exact ⟨rfl, h1⟩
  | false =>
    rw [if_neg (by decide)] at htx
    have htx2 := Lib.hid htx
    have hm2 := Lib.hid hm
    clear htx hm
    go_enter Tryd.func11, Tryd.ntmps11
    go_wp2_with (go_at_call 15; refine (c15 _).mono ?_; rintro e w1 ⟨rfl, h1⟩; clear c15)
    have hD1 := h.below h1
    have h1h := Lib.hid h1
    clear h h1
    go_loopg [5, 6] 64 (fun gf s5 s6 wx => ∃ (k : Nat) (L : List (List UInt8)), s6 = .int .u64 (bitV k) ∧ wx.ownsRow w1.heap.size 9 1 s5 L.length (encs encP L) ∧ Below w1.heap.size w1 wx ∧ Hid (k + gf = 64 ∧ L ++ nmsF m (64 - k) k = nmsF m 64 0 ∧ L.length ≤ k))
    case atStart => exact ⟨0, [], rfl, own_nil _ _ _ _, Below.refl _ _, Lib.hid ⟨rfl, rfl, Nat.le_refl _⟩⟩
    case round =>
      obtain ⟨k, L, rfl, HO, HB, hH⟩ := hrel
      obtain ⟨hk1, hk2, hk3⟩ := hH.out
      have hbase := HB.size
      have hDr := hD1.below HB
      by_cases hk : k = 64
      · have hL : L = nmsF m 64 0 := by
          rw [hk] at hk2
          rw [← hk2]
          show L = L ++ []
          rw [List.append_nil]
        have cJ := join_row HO (by omega) (by rw [hL]; exact nms_each m 64 0)
        rw [hL, ← htx2.out] at cJ
        have hv : bitV k = 0 := by unfold bitV; rw [if_neg (by omega)]
        rw [hv]
        have hfin := Lib.hid (h1h.out.trans (HB.mono h1h.out.size))
        rw [hL] at HO
        clear hH hk1 hk2 hk3 HO hv hk hL
        go_wp2_with (go_at_call 18; refine cJ.mono ?_; rintro e w2 ⟨rfl, h2⟩)
        go_ret
        exact ⟨rfl, hfin.out.trans (h2.mono hfin.out.size)⟩
      · have hk64 : k < 64 := by omega
        obtain ⟨g', rfl⟩ : ∃ g', gk = g' + 1 := ⟨gk - 1, by omega⟩
        have hv : bitV k = ((2 ^ k : Nat) : Int) := by unfold bitV; rw [if_pos hk64]
        have hnx := bitV_next k hk64
        have hst := nms_step m k hk64
        have hp0 : 0 < 2 ^ k := Nat.two_pow_pos k
        have hp1 : 2 ^ k < 2 ^ 64 := Nat.pow_lt_pow_right (by decide) hk64
        have hand := and64 m (2 ^ k) hm2.out hp1
        rw [and_pow] at hand
        have hbn : bitNm k = match nmB ((2 ^ k : Nat) : Int) with
          | some n => n
          | none => 48 :: 120 :: Lib.toUpperA (hexL 16 (2 ^ k) []) := rfl
        obtain ⟨l2, b2, hf2, hl2⟩ := name_tot ((2 ^ k : Nat) : Int)
        have hbn2 : bitNm k = if b2 = true then l2 else 48 :: 120 :: Lib.toUpperA (hexL 16 (2 ^ k) []) := by
          rw [hbn]
          unfold nmB
          rw [hf2]
          cases b2 with
          | true => show tl (strB l2) = l2; rw [tl_strB]
          | false => rfl
        have c15 := fun W => name15 _ l2 b2 W hf2
        have c17 := fun W h => form17 (2 ^ k) W hp1 h
        rw [hv]
        have hp0z : (0 : Int) < ((2 ^ k : Nat) : Int) := by omega
        have hp1z : ((2 ^ k : Nat) : Int) < 18446744073709551616 := by omega
        have hl16 := hexL_len 16 (2 ^ k) []
        have ha16 := hexL_ascii 16 (2 ^ k) [] (by intro b hb; cases hb)
        obtain ⟨hx, hhx⟩ : ∃ hx, hexL 16 (2 ^ k) [] = hx := ⟨_, rfl⟩
        rw [hhx] at hbn2 c17 hl16 ha16
        obtain ⟨P, hP⟩ : ∃ P : Int, ((2 ^ k : Nat) : Int) = P := ⟨_, rfl⟩
        have hzero : ((if m.testBit k = true then 2 ^ k else 0 : Nat) : Int) = if m.testBit k = true then P else 0 := by rw [← hP]; split <;> rfl
        rw [hP] at hp0z hp1z hand hnx c15 c17 ⊢
        rw [hzero] at hand
        have hgk : k + 1 + g' = 64 := by omega
        have hll := Lib.hid (show (L.length + 1) * 16 ≤ 140737488355328 by omega)
        have hne : (P = 0) = False := by simp; omega
        cases hb : m.testBit k with
        | false =>
          rw [hb] at hand hst
          rw [if_neg (by decide)] at hand hst
          have hH2 : Hid (k + 1 + g' = 64 ∧ L ++ nmsF m (64 - (k + 1)) (k + 1) = nmsF m 64 0 ∧ L.length ≤ k + 1) := Lib.hid ⟨hgk, by rw [hst, List.nil_append] at hk2; exact hk2, by omega⟩
          clear hH hk1 hk2 hk3 hst hbn hbn2 hf2 hl2 c15 c17 hl16 ha16 hhx hP hzero hv hp0 hp1 hk hb hm2 hgk
          go_wp2
          go_roundg g'
          case measure => exact Nat.lt_succ_self _
          case rel => exact ⟨k + 1, L, by rw [← hnx], HO, HB, hH2⟩
        | true =>
          rw [hb] at hand hst
          rw [if_pos rfl] at hand hst
          cases b2 with
          | true =>
            rw [if_pos rfl] at hbn2
            have hH2 : Hid (k + 1 + g' = 64 ∧ (L ++ [l2]) ++ nmsF m (64 - (k + 1)) (k + 1) = nmsF m 64 0 ∧ (L ++ [l2]).length ≤ k + 1) := Lib.hid ⟨hgk, by rw [hst, hbn2] at hk2; rw [List.append_assoc]; exact hk2, by rw [List.length_append]; simp; omega⟩
            clear hH hk1 hk2 hk3 hst hbn hbn2 hf2 hl2 c17 hl16 ha16 hhx hP hzero hv hp0 hp1 hk hb hm2 hgk
            go_wp2_with (first | (go_at_call 15; refine (c15 _).mono ?_; rintro e w2 ⟨rfl, h2⟩; have HO2 := pw_own_below HO h2; have HB2 := HB.trans (h2.mono hbase); have hbase2 := HB2.size) | ((with_reducible refine gate_builtin (b := .append) (xs := #[.tmp 30, .tmp 32]) rfl ?_); at_builtin; refine print_append_of (w0 := w1) encP w1.heap.size rfl (.tmp 30) (.tmp 32) 37 9 (.string ⟨#[]⟩) 16 rfl Tryd.underlying37 info9 rfl (by decide) u5 L l2 rfl rfl rfl HO2 HB2 hbase2 hll.out ?_; intro v1 w3 HO3 HB3 hg3 hat3))
            go_roundg g'
            case measure => exact Nat.lt_succ_self _
            case rel => exact ⟨k + 1, L ++ [l2], by rw [← hnx], HO3, HB3, hH2⟩
          | false =>
            rw [if_neg (by decide)] at hbn2
            have c16 := fun W => Laid.upper16 (strB hx) W (by rw [size_strB]; rw [List.length_nil] at hl16; omega) (fun j b hj => ha16 b (List.mem_of_getElem? hj))
            have hcat : (⟨#[48, 120]⟩ : ByteArray) ++ strB (Lib.toUpperA hx) = strB (48 :: 120 :: Lib.toUpperA hx) := by
              apply ByteArray.ext
              rw [ByteArray.data_append]
              show #[48, 120] ++ (Lib.toUpperA hx).toArray = (48 :: 120 :: Lib.toUpperA hx).toArray
              apply Array.toList_inj.1
              simp
            have hlu : ¬ (9223372036854775807 < 2 + (strB (Lib.toUpperA hx)).size) := by
              rw [size_strB]
              unfold Lib.toUpperA
              rw [List.length_map]
              rw [List.length_nil] at hl16
              omega
            have hs2 : (⟨#[48, 120]⟩ : ByteArray).size = 2 := rfl
            have c16' : ∀ W, Calls Tryd.prog 16 #[.string (strB hx)] W fun e w' => e = .returned (.string (strB (Lib.toUpperA hx))) ∧ Below W.heap.size W w' := c16
            have hH2 : Hid (k + 1 + g' = 64 ∧ (L ++ [48 :: 120 :: Lib.toUpperA hx]) ++ nmsF m (64 - (k + 1)) (k + 1) = nmsF m 64 0 ∧ (L ++ [48 :: 120 :: Lib.toUpperA hx]).length ≤ k + 1) := Lib.hid ⟨hgk, by rw [hst, hbn2] at hk2; rw [List.append_assoc]; exact hk2, by rw [List.length_append, List.length_singleton]; omega⟩
            obtain ⟨y, hy⟩ : ∃ y, (48 :: 120 :: Lib.toUpperA hx) = y := ⟨_, rfl⟩
            rw [hy] at hcat hH2
            obtain ⟨t, ht⟩ : ∃ t, strB (Lib.toUpperA hx) = t := ⟨_, rfl⟩
            rw [ht] at hcat hlu c16'
            obtain ⟨t2, ht2⟩ : ∃ t, strB hx = t := ⟨_, rfl⟩
            rw [ht2] at c16' c17
            clear hH hk1 hk2 hk3 hst hbn hbn2 hf2 hl2 hl16 ha16 hhx hP hzero hv hp0 hp1 hk hb hm2 hgk c16 hy ht ht2
            go_wp2_with (first | (go_at_call 15; refine (c15 _).mono ?_; rintro e w2 ⟨rfl, h2⟩; have HO2 := pw_own_below HO h2; have HB2 := HB.trans (h2.mono hbase); have hbase2 := HB2.size; have hD2 := hDr.below h2) | (go_at_call 17; refine (c17 _ hD2).mono ?_; rintro e w3 ⟨rfl, h3⟩; have HO3 := pw_own_below HO2 h3; have HB3 := HB2.trans (h3.mono hbase2); have hbase3 := HB3.size) | (go_at_call 16; refine (c16' _).mono ?_; rintro e w4 ⟨rfl, h4⟩; have HO4 := pw_own_below HO3 h4; have HB4 := HB3.trans (h4.mono hbase3); have hbase4 := HB4.size) | ((with_reducible refine gate_builtin (b := .append) (xs := #[.tmp 34, .tmp 39]) rfl ?_); at_builtin; refine print_append_of (w0 := w1) encP w1.heap.size rfl (.tmp 34) (.tmp 39) 37 9 (.string ⟨#[]⟩) 16 rfl Tryd.underlying37 info9 rfl (by decide) u5 L y rfl rfl rfl HO4 HB4 hbase4 hll.out ?_; intro v1 w5 HO5 HB5 hg5 hat5))
            go_roundg g'
            case measure => exact Nat.lt_succ_self _
            case rel => exact ⟨k + 1, L ++ [y], by rw [← hnx], HO5, HB5, hH2⟩
end Go.Proofs.YtjabjcgomnjpcaaDoor.Given
