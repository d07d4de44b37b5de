/- The walk of laws.FnReadCounting. -/
import Derived.Test.YtgbcmjbiddkldaaDoorMc
import Derived.Test.YtgbcmjbiddkldaaDoorIn
import Derived.Test.YtgbcmjbiddkldaaDoorFp
import Derived.Test.YtgbcmjbiddkldaaDoorPRx2
namespace Go.Proofs.YtgbcmjbiddkldaaDoor.Given
open Go.RowKit Go.Proofs.YtgbcmjbiddkldaaDoorW.PrintWords Go.Proofs.YtgbcmjbiddkldaaDoorW.PrintLast Go.Proofs.YtgbcmjbiddkldaaDoorW.PrintMore Go.Proofs.YtgbcmjbiddkldaaDoor.PR Go.Proofs.YtgbcmjbiddkldaaDoor.Pl
attribute [local go_sem] max2_int min2_int max_two min_two
set_option linter.unusedVariables false
set_option linter.unusedSimpArgs false

theorem kinds03 (w : World) : Kd.C (Kd.int .i64) (w.alloc (.cells #[.int .i64 0, .int .i64 3] 3)) (some ⟨w.heap.size, 0, none⟩) 2 [0, 3] := by
  have r1 := (MapKept.heap_alloc w (.cells #[.int .i64 0, .int .i64 3] 3)).1
  exact ⟨rfl, by omega, fun _ => ⟨_, rfl, fun j p hj => by
    rcases j with _ | _ | j
    · cases hj; exact ⟨[.int .i64 0], rfl, rfl, one_at (cellM r1 0 _ rfl)⟩
    · cases hj; exact ⟨[.int .i64 3], rfl, rfl, one_at (cellM r1 1 _ rfl)⟩
    · cases hj⟩⟩
theorem rinC_loop (l : List S32) (hl : l.length ≤ 9223372036854775807) : ∀ (m i K : Nat), i + m = l.length → 4 * m < K → ∃ b, laws_readIn.l0 K l [0, 3] l l.length i = some b ∧ (b = true → l.length ≤ 60 ∧ ∀ s ∈ l.drop i, okC s)
  | 0, i, K, h, hK => by
    obtain ⟨K, rfl⟩ : ∃ q, K = q + 1 := ⟨K - 1, by omega⟩
    refine ⟨decide ((l.length : Int) ≤ 60), ?_, fun hb => ⟨by have := of_decide_eq_true hb; omega, by rw [List.drop_eq_nil_of_le (by omega)]; simp⟩⟩
    simp only [laws_readIn.l0]
    rw [if_neg (by omega)]
  | m + 1, i, K, h, hK => by
    obtain ⟨K, rfl⟩ : ∃ q, K = q + 4 := ⟨K - 4, by omega⟩
    have hi : i < l.length := by omega
    have hw : wrap64 ((i : Int) + 1) = ((i + 1 : Nat) : Int) := by rw [wrap64_id (by omega) (by omega)]; omega
    have hr : rd_T32 l (i : Int) = l[i] := by simp [rd_T32, hi]
    obtain ⟨b, hb, hq⟩ := rinC_loop l hl m (i + 1) K (by omega) (by omega)
    have hb2 : laws_readIn.l0 K l [0, 3] l (l.length : Int) ((i : Int) + 1) = some b := by rw [show (i : Int) + 1 = ((i + 1 : Nat) : Int) by omega]; exact hb
    have w1 : wrap64 ((0 : Int) + 1) = 1 := by rw [wrap64_id (by omega) (by omega)]; rfl
    have w2 : wrap64 ((1 : Int) + 1) = 2 := by rw [wrap64_id (by omega) (by omega)]; rfl
    have w3 : wrap64 1 = 1 := by rw [wrap64_id (by omega) (by omega)]
    have w4 : wrap64 2 = 2 := by rw [wrap64_id (by omega) (by omega)]
    have r0 : rd [0, 3] (0 : Int) = 0 := rfl
    have r1 : rd [0, 3] (1 : Int) = 3 := rfl
    rw [List.drop_eq_getElem_cons hi]
    obtain ⟨s, hs⟩ : ∃ s, l[i] = s := ⟨_, rfl⟩
    rw [hs] at hr ⊢
    obtain ⟨d, n, wh⟩ := s
    have hcons : (okC ⟨d, n, wh⟩ → b = true → l.length ≤ 60 ∧ ∀ s ∈ (⟨d, n, wh⟩ : S32) :: l.drop (i + 1), okC s) := fun h1 h2 => ⟨(hq h2).1, fun s hs => by
      rcases List.mem_cons.1 hs with rfl | hs
      · exact h1
      · exact (hq h2).2 s hs⟩
    have no : ∀ P : Prop, (false = true → P) := fun P h => by cases h
    rw [show K + 4 = (K + 3) + 1 from rfl]
    simp only [laws_readIn.l0]
    rw [if_pos (by omega), if_pos (by omega), if_pos (by omega), hr]
    simp only [laws_readIn.l1, List.length_cons, List.length_nil]
    by_cases d0 : d = 0
    · subst d0
      by_cases c1 : n < 1
      · exact ⟨false, by simp [w1, w2, w3, w4, r0, r1, c1], no _⟩
      by_cases c2 : 5000 < n
      · exact ⟨false, by simp [w1, w2, w3, w4, r0, r1, c1, c2], no _⟩
      exact ⟨b, by simp [w1, w2, w3, w4, r0, r1, c1, c2, hw, hb2], hcons (.inl ⟨rfl, by simp only; omega, by simp only; omega⟩)⟩
    · by_cases d1 : d = 3
      · subst d1
        exact ⟨b, by simp [w1, w2, w3, w4, r0, r1, hw, hb2], hcons (.inr rfl)⟩
      · exact ⟨false, by simp [w1, w2, w3, w4, r0, r1, d0, d1], no _⟩
theorem rinC_some (l : List S32) (hl : l.length ≤ 9223372036854775807) : ∃ b, laws_readIn.f (4 * l.length + 1) l [0, 3] = some b ∧ (b = true → l.length ≤ 60 ∧ ∀ s ∈ l, okC s) := by
  obtain ⟨b, h1, h2⟩ := rinC_loop l hl l.length 0 (4 * l.length + 1) (by omega) (by omega)
  exact ⟨b, h1, by simpa using h2⟩
theorem IR.init {w : World} {A : Option Addr} {c : Nat} {l : List (List Int)} {fails : Bool} (hC : Kd.C (Kd.slice 5 (Kd.int .u8)) w A l.length l) (hc : l.length ≤ c) : IR (w.alloc (.cells #[.slice A l.length c, .bool fails] 38)) w.heap.size w.heap.size fails l := by
  refine ⟨Nat.le_refl _, A, c, (MapKept.heap_alloc w _).1, hc, fun hl => ?_⟩
  obtain ⟨ad, rfl, vs, h1, h2, h3, h4⟩ := parts_rd hC hl
  have hb : Below w.heap.size w (w.alloc (.cells #[.slice (some ad) l.length c, .bool fails] 38)) := (Below.refl _ _).alloc (Nat.le_refl _) _
  have hpos : 0 < vs.length := by rw [h1]; exact List.length_pos_iff.2 hl
  have hlt : ad.block < w.heap.size := by
    have := World.block_lt_of_cell? w _ (h2 0 vs[0] (by simp))
    rwa [add_block] at this
  exact ⟨ad, vs, rfl, by omega, h1, fun j v hj => (cell_kept (hb.block _ (by rw [add_block]; exact hlt))).trans (h2 j v hj), fun j p v hj hv => (h3 j p v hj hv).kept hb.block, h4⟩
theorem RdB.form {w : World} {M : Nat} {v : Value} {xs : List Int} (h : RdB w M v xs) : ∃ A c, v = .slice A xs.length c := by
  obtain ⟨A, c, e, _⟩ := h
  exact ⟨A, c, e⟩
set_option maxHeartbeats 4000000 in
set_option maxRecDepth 100000 in
theorem counting_law (w : World) (a : Addr) (M0 : Nat) (A0 : Option Addr) (c0 : Nat) (l : List (List Int)) (fails : Bool) (A1 : Option Addr) (c1 : Nat) (steps : List S32) (hL : LaidE w a M0) (hC : Kd.C (Kd.slice 5 (Kd.int .u8)) w A0 l.length l) (hc : l.length ≤ c0) (hS : Kd.C k32 w A1 steps.length steps) (hc1 : steps.length ≤ c1) :
    Calls Tryd.prog 4 #[.slice A0 l.length c0, .bool fails, .slice A1 steps.length c1] w fun e w' => e = .returned (.bool true) ∧ Below w.heap.size w w' := by
  obtain ⟨b1, hb1, hq1⟩ := fits_some l
  have c7 := fun (w : World) (hC : Kd.C (Kd.slice 5 (Kd.int .u8)) w A0 l.length l) => (laws_zzFits14.calls _ A0 c0 l _ w hC hc hb1).mono (fun e w' h => (⟨h.1, h.2.below⟩ : e = .returned (.bool b1) ∧ Below w.heap.size w w'))
  cases b1 with
  | false =>
    clear hb1 hq1
    go_enter Tryd.func4, Tryd.ntmps4
    go_wp2_with (go_at_call 7; go_must (refine (c7 _ hC).mono ?_; rintro e w1 ⟨rfl, hd1⟩))
    go_ret
    exact ⟨rfl, hd1⟩
  | true =>
    obtain ⟨hl1, hl2⟩ := hq1 rfl
    have hin := in_is l hl1 hl2
    by_cases hz : 2147483647 < steps.length
    · have hzb : decide ((2147483647 : Int) < (steps.length : Int)) = true := decide_eq_true (by omega)
      clear hb1 hq1 hl1 hl2 hin
      go_enter Tryd.func4, Tryd.ntmps4
      go_wp2_with (go_at_call 7; go_must (refine (c7 _ hC).mono ?_; rintro e w1 ⟨rfl, hd1⟩))
      go_ret
      exact ⟨rfl, hd1⟩
    have hzb : decide ((2147483647 : Int) < (steps.length : Int)) = false := decide_eq_false (by omega)
    by_cases hpi : l.length ≤ 30 ∧ l.flatten.length ≤ 4000
    case neg =>
      rw [decide_eq_false hpi] at hin
      have c8 := fun (w : World) (hC : Kd.C (Kd.slice 5 (Kd.int .u8)) w A0 l.length l) => (spec_PartsIn.calls _ A0 c0 l _ w hC hc hin).mono (fun e w' h => (⟨h.1, h.2.below⟩ : e = .returned (.bool false) ∧ Below w.heap.size w w'))
      clear hin hb1 hl1 hl2 hpi hq1
      go_enter Tryd.func4, Tryd.ntmps4
      go_wp2_with (first
        | (go_at_call 7; go_must (refine (c7 _ hC).mono ?_; rintro e w1 ⟨rfl, hd1⟩); have hC1 := Kd.C_below hC hd1)
        | (go_at_call 8; go_must (refine (c8 _ hC1).mono ?_; rintro e w2 ⟨rfl, hd2⟩)))
      go_ret
      exact ⟨rfl, hd1.trans (hd2.mono hd1.size)⟩
    rw [decide_eq_true hpi] at hin
    have c8 := fun (w : World) (hC : Kd.C (Kd.slice 5 (Kd.int .u8)) w A0 l.length l) => (spec_PartsIn.calls _ A0 c0 l _ w hC hc hin).mono (fun e w' h => (⟨h.1, h.2.below⟩ : e = .returned (.bool true) ∧ Below w.heap.size w w'))
    obtain ⟨b9, hb9, hq9⟩ := rinC_some steps (by omega)
    have c9 := fun (w : World) (hS : Kd.C k32 w A1 steps.length steps) => (laws_readIn.calls _ A1 c1 steps (some ⟨w.heap.size, 0, none⟩) 2 [0, 3] _ _ (Kd.C_alloc hS _) hc1 (kinds03 w) (Nat.le_refl _) hb9).mono (fun e w' h => (⟨h.1, ((Below.refl _ w).alloc (Nat.le_refl _) _).trans (h.2.mono (by simp))⟩ : e = .returned (.bool b9) ∧ Below w.heap.size w w'))
    cases b9 with
    | false =>
      clear hin hb1 hl1 hl2 hpi hq1 hb9 hq9
      go_enter Tryd.func4, Tryd.ntmps4
      go_wp2_with (first
        | (go_at_call 7; go_must (refine (c7 _ hC).mono ?_; rintro e w1 ⟨rfl, hd1⟩); have hC1 := Kd.C_below hC hd1; have hS1 := Kd.C_below hS hd1)
        | (go_at_call 8; go_must (refine (c8 _ hC1).mono ?_; rintro e w2 ⟨rfl, hd2⟩); have hS2 := Kd.C_below hS1 hd2)
        | (go_at_call 9; go_must (refine (c9 _ hS2).mono ?_; rintro e w3 ⟨rfl, hd3⟩)))
      go_ret
      exact ⟨rfl, (hd1.trans (hd2.mono hd1.size)).trans (hd3.mono (Nat.le_trans hd1.size hd2.size))⟩
    | true =>
      obtain ⟨hs60, hoks⟩ := hq9 rfl
      have hple := part_le (K := 100000) (Nat.le_trans hpi.2 (by omega))
      have c11 := fun (w : World) (hL : LaidE w a M0) => awake_any w a M0 hL
      have c10 := fun (w : World) (hL : LaidE w a M0) (hC : Kd.C (Kd.slice 5 (Kd.int .u8)) w A0 l.length l) (hS : Kd.C k32 w A1 steps.length steps) => counting_any w a M0 A0 c0 l fails A1 c1 steps hL hC hc hpi.1 hple hS hc1 hs60 hoks
      have hMle := hL.le
      have hpl0 := hpi.1
      have IRi := fun (w : World) (hC : Kd.C (Kd.slice 5 (Kd.int .u8)) w A0 l.length l) => IR.init (fails := fails) hC hc
      clear hin hb1 hl1 hl2 hpi hq1 hb9 hq9
      go_enter Tryd.func4, Tryd.ntmps4
      go_upto_region 8 with (first
        | (go_at_call 7; go_must (refine (c7 _ hC).mono ?_; rintro e w1 ⟨rfl, hd1⟩); have hC1 := Kd.C_below hC hd1; have hS1 := Kd.C_below hS hd1)
        | (go_at_call 8; go_must (refine (c8 _ hC1).mono ?_; rintro e w2 ⟨rfl, hd2⟩); have hC2 := Kd.C_below hC1 hd2; have hS2 := Kd.C_below hS1 hd2)
        | (go_at_call 9; go_must (refine (c9 _ hS2).mono ?_; rintro e w3 ⟨rfl, hd3⟩); have hC3 := Kd.C_below hC2 hd3; have hS3 := Kd.C_below hS2 hd3; have b3 := (hd1.trans (hd2.mono hd1.size)).trans (hd3.mono (Nat.le_trans hd1.size hd2.size)); have hL3 : LaidE w3 a M0 := hL.below (fun k hk => b3.block k (Nat.lt_of_lt_of_le hk hMle)) b3.size)
        | (go_at_call 13; go_must (refine (c10 _ hL3 hC3 hS3).mono ?_; rintro e w4 ⟨v4, xs, rfl, hxs, hout, hd4⟩); have hxl : xs.length = steps.length := (by have := congrArg List.length hxs; simpa [runC_length] using this); obtain ⟨Ag, cg, ev4⟩ := own_slice hout.own; rw [hxl] at ev4; subst ev4; have b4 := b3.trans (hd4.mono b3.size); have hC4 := Kd.C_below hC3 hd4; have hS4 := Kd.C_below hS3 hd4; have hL4 : LaidE w4 a M0 := hL.below (fun k hk => b4.block k (Nat.lt_of_lt_of_le hk hMle)) b4.size)
        | (go_at_call 11; go_must (refine (c11 _ hL4).mono ?_; rintro e w5 ⟨rfl, hd5⟩); have b5 := b4.trans (hd5.mono b4.size); have hC5 := Kd.C_below hC4 hd5; have hS5 := Kd.C_below hS4 hd5))
      have hIR := IRi w5 hC5
      obtain ⟨X, hX⟩ : ∃ X, w5.heap.size = X := ⟨_, rfl⟩
      rw [hX] at hIR
      have hB6 : Below X w5 (w5.alloc (.cells #[.slice A0 l.length c0, .bool fails] 38)) := (Below.refl _ _).alloc (by omega) _
      have hXs : X ≤ (w5.alloc (.cells #[.slice A0 l.length c0, .bool fails] 38)).heap.size := by simp; omega
      have HX := Lib.hid hX
      have B5 := Lib.hid b5
      have D5 := Lib.hid hd5
      have H11 := hoks
      clear c7 c8 c9 c10 c11 hd1 hd2 hd3 hd4 hd5 hC1 hC2 hC3 hC4 hC5 hS1 hS2 hS3 hS4 hL3 hL4 b3 b4 b5 IRi hoks
      go_upto_region 11 with fail
      try rw [hX]
      clear hX
      go_loopg [9, 49] steps.length (fun gf s9 s49 wx => ∃ (i : Nat) (st : List (List Int) × Nat), s9 = .int .i64 (st.2 : Int) ∧ s49 = .int .i64 (i : Int) ∧ i ≤ steps.length ∧ steps.length ≤ i + gf ∧ IR wx X X fails st.1 ∧ X ≤ wx.heap.size ∧ (∀ p ∈ st.1, p.length ≤ 100000) ∧ st.1.length ≤ 30 ∧ st.2 ≤ 5000 * i ∧ Hid ((xs.drop i).map (·.2) = runC fails st (steps.drop i)) ∧ Below X w5 wx)
      case atStart => exact ⟨0, (l, 0), rfl, rfl, Nat.zero_le _, by omega, hIR, hXs, hple, hpl0, by simp, Lib.hid (by simpa using hxs), hB6⟩
      case round =>
        clear hIR hB6 hXs hxs
        obtain ⟨i, st, rfl, rfl, hi, hfu, hI, hXr, hp6, hl6, hc6, hH, hB⟩ := hrel
        by_cases hlt : i < steps.length
        · obtain ⟨g', rfl⟩ : ∃ g', gk = g' + 1 := ⟨gk - 1, by omega⟩
          have hltb : decide ((i : Int) < (steps.length : Int)) = true := decide_eq_true (by omega)
          obtain ⟨ad, hA1, x0, x1, x2⟩ := at_T32 (Kd.C_below hS5 (by rw [HX.out]; exact hB)) (i : Int) (by omega) (by omega)
          have hsl : rd_T32 steps (i : Int) = steps[i] := by simp [rd_T32, hlt]
          rw [hsl] at x0 x1 x2
          have hok := H11 _ (List.getElem_mem hlt)
          have hi2 : i < xs.length := by omega
          obtain ⟨g, cg', e4, hcells⟩ := outs_at hout (by omega)
          obtain ⟨y0, y1, y2⟩ := hcells i hi2
          have hda := hout.data _ (List.getElem_mem hi2)
          rw [hxl] at e4
          cases e4
          have hH1 := hH.out
          rw [List.drop_eq_getElem_cons hlt, List.drop_eq_getElem_cons hi2] at hH1
          simp only [List.map_cons, runC, List.cons.injEq] at hH1
          obtain ⟨hH1, hH2⟩ := hH1
          rw [hH1] at y1 y2 hda
          obtain ⟨s, hs⟩ : ∃ s, steps[i] = s := ⟨_, rfl⟩
          rw [hs] at x0 x1 x2 hH2 hok y1 y2 hda
          obtain ⟨dv, hdv⟩ : ∃ dv, xs[i].1 = dv := ⟨_, rfl⟩
          rw [hdv] at y0 hda
          simp only [Int.toNat_natCast] at x0 x1 x2
          subst hA1
          obtain ⟨ad4, had4⟩ : ∃ z : Addr, (⟨g, 0, none⟩ : Addr) = z := ⟨_, rfl⟩
          have f0 : (⟨g, 3 * i, none⟩ : Addr) = ad4.add (i * 3) := by rw [← had4]; simp [Addr.add, Nat.mul_comm]
          have f1 : (⟨g, 3 * i + 1, none⟩ : Addr) = ⟨(ad4.add (i * 3)).block, (ad4.add (i * 3)).off + 1, none⟩ := by rw [← f0]
          have f2 : (⟨g, 3 * i + 2, none⟩ : Addr) = ⟨(ad4.add (i * 3)).block, (ad4.add (i * 3)).off + 2, none⟩ := by rw [← f0]
          rw [f0] at y0
          rw [f1] at y1
          rw [f2] at y2
          rw [had4]
          have Had4 := Lib.hid had4
          clear f0 f1 f2 had4 hcells
          obtain ⟨d, n, wh⟩ := s
          simp only at x0 x1 x2
          have b0W : Below wr.heap.size wr (wr.alloc (.cells #[.int .i64 d, .int .i64 n, .int .i64 wh] 32)) := (Below.refl _ _).alloc (Nat.le_refl _) _
          have hIW := hI.moved hXr b0W.block
          have bW : Below X w5 (wr.alloc (.cells #[.int .i64 d, .int .i64 n, .int .i64 wh] 32)) := hB.trans (b0W.mono hXr)
          have q1 := (MapKept.heap_alloc wr (.cells #[.int .i64 d, .int .i64 n, .int .i64 wh] 32)).1
          have hXW : X ≤ (wr.alloc (.cells #[.int .i64 d, .int .i64 n, .int .i64 wh] 32)).heap.size := Nat.le_trans hXr b0W.size
          have h4X : w4.heap.size ≤ X := by have := D5.out.size; have := HX.out; omega
          have b45 : Below w4.heap.size w4 w5 := D5.out
          have b4W := b45.trans (bW.mono h4X)
          have s4y0 := World.block_lt_of_cell? w4 _ y0
          have s4y2 := World.block_lt_of_cell? w4 _ y2
          replace y0 := (b4W.cell s4y0).trans y0
          replace y1 := (b4W.cell (World.block_lt_of_cell? w4 _ y1)).trans y1
          replace y2 := (b4W.cell s4y2).trans y2
          unfold okC at hok
          simp only at hok
          clear b0W b45
          by_cases d1 : d = 3
          · subst d1
            have hst : stC fails st ⟨3, n, wh⟩ = (st, ⟨[], (st.2 : Int), 0⟩) := by
              unfold stC; simp only; rw [if_neg (by decide)]
            rw [hst] at hH2 y1 y2 hda
            simp only at hH2 y1 y2 hda
            clear hst hok
            go_wp2_with fail
            obtain rfl := Had4.out
            go_roundg g'
            case measure => omega
            case rel => exact ⟨i + 1, st, rfl, by go_num, by omega, by omega, hIW, hXW, hp6, hl6, by omega, Lib.hid hH2, bW⟩
          · obtain ⟨rfl, hn1, hn5⟩ : d = 0 ∧ 1 ≤ n ∧ n ≤ 5000 := by rcases hok with h | h <;> omega
            clear hok d1
            obtain ⟨Nn, hN⟩ : ∃ N : Nat, n = (N : Int) := ⟨n.toNat, by omega⟩
            subst hN
            have hird := iread X X Nn fails st.1 (wr.alloc (.cells #[.int .i64 0, .int .i64 (Nn : Int), .int .i64 wh] 32)) hIW (by omega) (by omega) hXW (by omega) (fun p hp => Nat.le_trans (hp6 p hp) (by omega))
            have hpp := rdP_parts fails Nn st.1
            obtain ⟨z, hz2⟩ : ∃ z, rdP fails Nn st.1 = z := ⟨_, rfl⟩
            have hst : stC fails st ⟨0, (Nn : Int), wh⟩ = ((z.2.2, st.2 + z.1.length), ⟨z.1, 0, z.2.1⟩) := by
              unfold stC; simp only; simp only [if_true, Int.toNat_natCast]; rw [hz2]
            rw [hz2] at hird hpp
            rw [hst] at hH2 y1 y2 hda
            simp only at hH2 y1 y2 hda
            obtain ⟨hz1, hz3, hz4⟩ := hpp
            have hp7 : ∀ p ∈ z.2.2, p.length ≤ 100000 := hz4 100000 hp6
            have hr7 : z.2.2.length ≤ 30 := by omega
            have hc7 : st.2 + z.1.length ≤ 5000 * (i + 1) := by omega
            have hw7 : wrap64 ((st.2 : Int) + (z.1.length : Int)) = ((st.2 + z.1.length : Nat) : Int) := by rw [wrap64_id (by omega) (by omega)]; omega
            have hw8 : IntKind.i64.wrap ((st.2 : Int) + (z.1.length : Int)) = ((st.2 + z.1.length : Nat) : Int) := (IntWalk.i64_left _).trans hw7
            clear hz2 hst y1 hz3 hz4 hz1
            obtain ⟨Ad, cdd, edv⟩ := hda.slice
            subst edv
            have x1W := cellH q1 1 (.int .i64 (Nn : Int)) rfl
            go_upto_region 18 with (go_at_call 14; go_must (refine hird.mono ?_; rintro e w7 ⟨dv2, rfl, hR7, hI7, hO7⟩); obtain ⟨Ad2, cd2, edv2⟩ := hR7.form; subst edv2)
            have hO8 : Below X (wr.alloc (.cells #[.int .i64 0, .int .i64 (Nn : Int), .int .i64 wh] 32)) w7 := ⟨hO7.os, hO7.tape, hO7.output, hO7.size, fun k hk => hO7.block k (by omega) (by omega)⟩
            have bW7 := bW.trans hO8
            have b47 := b4W.trans (hO8.mono h4X)
            have hX7 := Nat.le_trans hXW hO7.size
            have Y0 : ∀ n, (w7.drewN n).cell? (ad4.add (i * 3)) = some (.slice Ad z.1.length cdd) := fun n => (hO8.cell (Nat.lt_of_lt_of_le s4y0 h4X)).trans y0
            have Y2 : ∀ n, (w7.drewN n).cell? ⟨(ad4.add (i * 3)).block, (ad4.add (i * 3)).off + 2, none⟩ = some (.int .i64 z.2.1) := fun n => (hO8.cell (p := ⟨(ad4.add (i * 3)).block, (ad4.add (i * 3)).off + 2, none⟩) (Nat.lt_of_lt_of_le s4y2 h4X)).trans y2
            have v1 : ∀ n, (convert 29 9 (.slice Ad z.1.length cdd)).run Tryd.prog (w7.drewN n) = .ok (.string (strOfNums z.1)) (w7.drewN n) := fun n =>
              conv_data (hda.moved (w' := w7.drewN n) (vb' := nilV) (fun k _ hk _ _ => b47.block k hk) (.inl rfl))
            have v2 : ∀ n, (convert 29 9 (.slice Ad2 z.1.length cd2)).run Tryd.prog (w7.drewN n) = .ok (.string (strOfNums z.1)) (w7.drewN n) := fun n => conv_rdb (w := w7.drewN n) (M := X) hR7
            clear x0 x1 x2 hw7 hw8 hdv hO7 hO8 x1W
            go_quiet (fail)
            go_wp2_with fail
            obtain rfl := Had4.out
            go_roundg g'
            case measure => omega
            case rel => exact ⟨i + 1, (z.2.2, st.2 + z.1.length), by go_num, by go_num, by omega, by omega, hI7, hX7, hp7, hr7, hc7, Lib.hid hH2, pw_below_drewN bW7 _⟩
        · have hltb : decide ((i : Int) < (steps.length : Int)) = false := decide_eq_false (by omega)
          go_wp2
          go_ret
          exact ⟨rfl, B5.out.trans (hB.mono (by rw [← HX.out]; exact B5.out.size))⟩
end Go.Proofs.YtgbcmjbiddkldaaDoor.Given
