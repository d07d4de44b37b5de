/- The walk of laws.FnReadPlaces. -/
import Derived.Test.YtgbcmjbiddkldaaDoorPp
import Derived.Test.YtgbcmjbiddkldaaDoorPRx2
namespace Go.Proofs.YtgbcmjbiddkldaaDoor.Given
open Go.RowKit Go.Proofs.YtgbcmjbiddkldaaDoorW.PrintWords Go.Proofs.YtgbcmjbiddkldaaDoorW.PrintLast Go.Proofs.YtgbcmjbiddkldaaDoorW.PrintMore Go.Proofs.YtgbcmjbiddkldaaDoor.PR Go.Proofs.YtgbcmjbiddkldaaDoor.Pl
attribute [local go_sem] max2_int min2_int max_two min_two
set_option linter.unusedVariables false
set_option linter.unusedSimpArgs false

theorem conv_sub {w : World} {A : Option Addr} {c p : Nat} {xs dat : List Int} (hc : xs.length ≤ c) (h : ∀ (j : Nat) (x : Int), xs[j]? = some x → ∃ D, A = some ⟨D, 0, none⟩ ∧ w.cell? ⟨D, j, none⟩ = some (.int .u8 x)) (hd : dat = (xs.drop p).take dat.length) (hp : p + dat.length ≤ xs.length) :
    (convert 29 9 (.slice (if c = p then A else Option.map (fun x => x.add p) A) dat.length (c - p))).run Tryd.prog w = .ok (.string (strOfNums dat)) w := by
  by_cases hn : dat = []
  · subst hn
    obtain ⟨A', hA'⟩ : ∃ A', (if c = p then A else Option.map (fun x => x.add p) A) = A' := ⟨_, rfl⟩
    rw [hA']
    cases A' with
    | none => exact run_convert_bytes_nil w 29 5 Tryd.underlying29 Tryd.underlying5 0 (c - p) 9 Tryd.underlying9
    | some a => exact run_convert_bytes_back w 29 9 5 a (c - p) [] Tryd.underlying29 Tryd.underlying5 Tryd.underlying9 (by intro j hj; simp at hj)
  · have hpos : 0 < dat.length := List.length_pos_iff.2 hn
    obtain ⟨D, rfl, _⟩ := h 0 (xs[0]'(by omega)) (by simp)
    rw [if_neg (by omega)]
    have ea : Option.map (fun x : Addr => x.add p) (some (⟨D, 0, none⟩ : Addr)) = some ⟨D, p, none⟩ := by simp [Addr.add]; intro h; exact h.symm
    rw [ea]
    refine run_convert_bytes_arg w 29 5 Tryd.underlying29 Tryd.underlying5 D p dat.length (c - p) dat rfl (fun i hi => ?_) 9 Tryd.underlying9
    have hx : xs[p + i]? = some (dat.getD i 0) := by
      have e1 : dat[i]? = xs[p + i]? := by
        rw [hd, List.getElem?_take, if_pos (by omega), List.getElem?_drop]
      rw [← e1, List.getD_eq_getElem?_getD]
      simp [hi]
    obtain ⟨D', e, h4⟩ := h (p + i) _ hx
    cases e
    exact h4
theorem kinds01 (w : World) : Kd.C (Kd.int .i64) (w.alloc (.cells #[.int .i64 0, .int .i64 1] 3)) (some ⟨w.heap.size, 0, none⟩) 2 [0, 1] := by
  have r1 := (MapKept.heap_alloc w (.cells #[.int .i64 0, .int .i64 1] 3)).1
  exact ⟨rfl, by omega, fun _ => ⟨_, rfl, fun j p hj => by
    rcases j with _ | _ | j
    · cases hj; exact ⟨[.int .i64 0], rfl, rfl, one_at (cellM r1 0 _ rfl)⟩
    · cases hj; exact ⟨[.int .i64 1], rfl, rfl, one_at (cellM r1 1 _ rfl)⟩
    · cases hj⟩⟩

set_option maxHeartbeats 4000000 in
set_option maxRecDepth 100000 in
theorem places_any (w : World) (a : Addr) (M0 : Nat) (A0 : Option Addr) (c0 : Nat) (l : List (List Int)) (size : Int) (A1 : Option Addr) (c1 : Nat) (steps : List S32) (hL : LaidE w a M0) (hC : Kd.C (Kd.slice 5 (Kd.int .u8)) w A0 l.length l) (hc : l.length ≤ c0) (hS : Kd.C k32 w A1 steps.length steps) (hc1 : steps.length ≤ c1) :
    Calls Tryd.prog 3 #[.slice A0 l.length c0, .int .i64 size, .slice A1 steps.length c1] w fun e w' => e = .returned (.bool true) ∧ Below w.heap.size w w' := by
  obtain ⟨b1, hb1, hq1⟩ := fits_some l
  have c7 := fun (w : World) (hC : Kd.C (Kd.slice 5 (Kd.int .u8)) w A0 l.length l) => (laws_zzFits14.calls _ A0 c0 l _ w hC hc hb1).mono (fun e w' h => (⟨h.1, h.2.below⟩ : e = .returned (.bool b1) ∧ Below w.heap.size w w'))
  cases b1 with
  | false =>
    clear hb1 hq1
    go_enter Tryd.func3, Tryd.ntmps3
    go_wp2_with (go_at_call 7; go_must (refine (c7 _ hC).mono ?_; rintro e w1 ⟨rfl, hd1⟩))
    go_ret
    exact ⟨rfl, hd1⟩
  | true =>
    obtain ⟨hl1, hl2⟩ := hq1 rfl
    have hin := in_is l hl1 hl2
    by_cases hz : 2147483647 < steps.length
    · have hzb : decide ((2147483647 : Int) < (steps.length : Int)) = true := decide_eq_true (by omega)
      clear hb1 hq1 hl1 hl2 hin
      go_enter Tryd.func3, Tryd.ntmps3
      go_wp2_with (go_at_call 7; go_must (refine (c7 _ hC).mono ?_; rintro e w1 ⟨rfl, hd1⟩))
      go_ret
      exact ⟨rfl, hd1⟩
    have hzb : decide ((2147483647 : Int) < (steps.length : Int)) = false := decide_eq_false (by omega)
    by_cases hpi : l.length ≤ 30 ∧ l.flatten.length ≤ 4000
    case neg =>
      rw [decide_eq_false hpi] at hin
      have c8 := fun (w : World) (hC : Kd.C (Kd.slice 5 (Kd.int .u8)) w A0 l.length l) => (spec_PartsIn.calls _ A0 c0 l _ w hC hc hin).mono (fun e w' h => (⟨h.1, h.2.below⟩ : e = .returned (.bool false) ∧ Below w.heap.size w w'))
      clear hin hb1 hl1 hl2 hpi hq1
      go_enter Tryd.func3, Tryd.ntmps3
      go_wp2_with (first
        | (go_at_call 7; go_must (refine (c7 _ hC).mono ?_; rintro e w1 ⟨rfl, hd1⟩); have hC1 := Kd.C_below hC hd1)
        | (go_at_call 8; go_must (refine (c8 _ hC1).mono ?_; rintro e w2 ⟨rfl, hd2⟩)))
      go_ret
      exact ⟨rfl, hd1.trans (hd2.mono hd1.size)⟩
    rw [decide_eq_true hpi] at hin
    have c8 := fun (w : World) (hC : Kd.C (Kd.slice 5 (Kd.int .u8)) w A0 l.length l) => (spec_PartsIn.calls _ A0 c0 l _ w hC hc hin).mono (fun e w' h => (⟨h.1, h.2.below⟩ : e = .returned (.bool true) ∧ Below w.heap.size w w'))
    by_cases n1 : 5000 < size
    · have n1b : decide (5000 < size) = true := decide_eq_true n1
      clear hin hb1 hl1 hl2 hpi hq1
      go_enter Tryd.func3, Tryd.ntmps3
      go_wp2_with (first
        | (go_at_call 7; go_must (refine (c7 _ hC).mono ?_; rintro e w1 ⟨rfl, hd1⟩); have hC1 := Kd.C_below hC hd1)
        | (go_at_call 8; go_must (refine (c8 _ hC1).mono ?_; rintro e w2 ⟨rfl, hd2⟩)))
      go_ret
      exact ⟨rfl, hd1.trans (hd2.mono hd1.size)⟩
    have n1b : decide (5000 < size) = false := decide_eq_false n1
    obtain ⟨b9, hb9, hq9⟩ := rin_some steps (by omega)
    have c9 := fun (w : World) (hS : Kd.C k32 w A1 steps.length steps) => (laws_readIn.calls _ A1 c1 steps (some ⟨w.heap.size, 0, none⟩) 2 [0, 1] _ _ (Kd.C_alloc hS _) hc1 (kinds01 w) (Nat.le_refl _) hb9).mono (fun e w' h => (⟨h.1, ((Below.refl _ w).alloc (Nat.le_refl _) _).trans (h.2.mono (by simp))⟩ : e = .returned (.bool b9) ∧ Below w.heap.size w w'))
    cases b9 with
    | false =>
      clear hin hb1 hl1 hl2 hpi hq1 hb9 hq9
      go_enter Tryd.func3, Tryd.ntmps3
      go_wp2_with (first
        | (go_at_call 7; go_must (refine (c7 _ hC).mono ?_; rintro e w1 ⟨rfl, hd1⟩); have hC1 := Kd.C_below hC hd1; have hS1 := Kd.C_below hS hd1)
        | (go_at_call 8; go_must (refine (c8 _ hC1).mono ?_; rintro e w2 ⟨rfl, hd2⟩); have hS2 := Kd.C_below hS1 hd2)
        | (go_at_call 9; go_must (refine (c9 _ hS2).mono ?_; rintro e w3 ⟨rfl, hd3⟩)))
      go_ret
      exact ⟨rfl, (hd1.trans (hd2.mono hd1.size)).trans (hd3.mono (Nat.le_trans hd1.size hd2.size))⟩
    | true =>
      obtain ⟨hs60, hoks⟩ := hq9 rfl
      obtain ⟨wl, hwl⟩ : ∃ wl, l.flatten = wl := ⟨_, rfl⟩
      have hwh := whole_is l hpi.1 hpi.2
      have hple := part_le (K := 100000) (Nat.le_trans hpi.2 (by omega))
      rw [hwl] at hwh
      have c12 := fun (w : World) (hC : Kd.C (Kd.slice 5 (Kd.int .u8)) w A0 l.length l) => spec_Whole.calls _ A0 c0 l _ w hC hc hwh
      have c11 := fun (w : World) (hL : LaidE w a M0) => awake_any w a M0 hL
      have c10 := fun (w : World) (hL : LaidE w a M0) (hC : Kd.C (Kd.slice 5 (Kd.int .u8)) w A0 l.length l) (hS : Kd.C k32 w A1 steps.length steps) => repeat_any w a M0 A0 c0 l false size A1 c1 steps hL hC hc hpi.1 hple (by omega) hS hc1 hs60 hoks
      have hMle := hL.le
      have hwl4 : wl.length ≤ 4000 := by rw [← hwl]; exact hpi.2
      have hI0 : InvR wl (l, [], 0) := ⟨by simpa using hwl, Nat.le_refl _⟩
      clear hin hb1 hl1 hl2 hpi hq1 hb9 hq9 hwh hple hwl
      go_enter Tryd.func3, Tryd.ntmps3
      go_upto_region 9 with (first
        | (go_at_call 7; go_must (refine (c7 _ hC).mono ?_; rintro e w1 ⟨rfl, hd1⟩); have hC1 := Kd.C_below hC hd1; have hS1 := Kd.C_below hS hd1)
        | (go_at_call 8; go_must (refine (c8 _ hC1).mono ?_; rintro e w2 ⟨rfl, hd2⟩); have hC2 := Kd.C_below hC1 hd2; have hS2 := Kd.C_below hS1 hd2)
        | (go_at_call 9; go_must (refine (c9 _ hS2).mono ?_; rintro e w3 ⟨rfl, hd3⟩); have hC3 := Kd.C_below hC2 hd3; have hS3 := Kd.C_below hS2 hd3; have b3 := (hd1.trans (hd2.mono hd1.size)).trans (hd3.mono (Nat.le_trans hd1.size hd2.size)); have hL3 : LaidE w3 a M0 := hL.below (fun k hk => b3.block k (Nat.lt_of_lt_of_le hk hMle)) b3.size)
        | (go_at_call 10; go_must (refine (c10 _ hL3 hC3 hS3).mono ?_; rintro e w4 ⟨v4, xs, rfl, hxs, ⟨vb, hout⟩, hd4⟩); have hxl : xs.length = steps.length := (by have := congrArg List.length hxs; simpa [runR_length] using this); obtain ⟨Ag, cg, ev4⟩ := own_slice hout.own; rw [hxl] at ev4; subst ev4; have b4 := b3.trans (hd4.mono b3.size); have hC4 := Kd.C_below hC3 hd4; have hS4 := Kd.C_below hS3 hd4; have hL4 : LaidE w4 a M0 := hL.below (fun k hk => b4.block k (Nat.lt_of_lt_of_le hk hMle)) b4.size)
        | (go_at_call 11; go_must (refine (c11 _ hL4).mono ?_; rintro e w5 ⟨rfl, hd5⟩); have b5 := b4.trans (hd5.mono b4.size); have hC5 := Kd.C_below hC4 hd5; have hS5 := Kd.C_below hS4 hd5)
        | (go_at_call 12; go_must (refine (c12 _ hC5).mono ?_; rintro e w6 ⟨v6, rfl, hR6, hd6⟩); have b6 := b5.trans (hd6.mono b5.size); have hS6 := Kd.C_below hS5 hd6; obtain ⟨Aw, cw, ew, hcw, hwc⟩ := conv_row hR6; subst ew))
      have hd46 := hd5.trans (hd6.mono hd5.size)
      clear c7 c8 c9 c10 c11 c12 hd1 hd2 hd3 hd4 hd5 hd6 hC1 hC2 hC3 hC4 hC5 hS1 hS2 hS3 hS4 hS5 hL3 hL4 b3 b4 b5 hR6
      go_wp2
      go_loopg [9, 51] steps.length (fun gf s9 s51 wx => ∃ (i : Nat) (st : RSt), s9 = .int .i64 (st.2.2 : Int) ∧ s51 = .int .i64 (i : Int) ∧ i ≤ steps.length ∧ steps.length ≤ i + gf ∧ InvR wl st ∧ Hid ((xs.drop i).map (·.2) = runR false st (steps.drop i)) ∧ Below w6.heap.size w6 wx)
      case atStart => exact ⟨0, (l, [], 0), rfl, rfl, Nat.zero_le _, by omega, hI0, Lib.hid (by simpa using hxs), Below.refl _ _⟩
      case round =>
        obtain ⟨i, st, rfl, rfl, hi, hfu, hI, hH, hB⟩ := hrel
        by_cases hlt : i < steps.length
        · obtain ⟨g', rfl⟩ : ∃ g', gk = g' + 1 := ⟨gk - 1, by omega⟩
          have hltb : decide ((i : Int) < (steps.length : Int)) = true := decide_eq_true (by omega)
          obtain ⟨ad, hA1, x0, x1, x2⟩ := at_T32 (Kd.C_below hS6 hB) (i : Int) (by omega) (by omega)
          have hsl : rd_T32 steps (i : Int) = steps[i] := by simp [rd_T32, hlt]
          rw [hsl] at x0 x1 x2
          have hok := hoks _ (List.getElem_mem hlt)
          have hi2 : i < xs.length := by omega
          obtain ⟨g, cg', e4, hcells⟩ := outs_at hout (by omega)
          obtain ⟨y0, y1, y2⟩ := hcells i hi2
          have hda := hout.data _ (List.getElem_mem hi2)
          rw [hxl] at e4
          cases e4
          have hH1 := hH.out
          rw [List.drop_eq_getElem_cons hlt, List.drop_eq_getElem_cons hi2] at hH1
          simp only [List.map_cons, runR, List.cons.injEq] at hH1
          obtain ⟨hH1, hH2⟩ := hH1
          rw [hH1] at y1 y2 hda
          obtain ⟨s, hs⟩ : ∃ s, steps[i] = s := ⟨_, rfl⟩
          rw [hs] at x0 x1 x2 hH2 hok y1 y2 hda
          obtain ⟨dv, hdv⟩ : ∃ dv, xs[i].1 = dv := ⟨_, rfl⟩
          rw [hdv] at y0 hda
          simp only [Int.toNat_natCast] at x0 x1 x2
          subst hA1
          obtain ⟨ad4, had4⟩ : ∃ z : Addr, (⟨g, 0, none⟩ : Addr) = z := ⟨_, rfl⟩
          have f0 : (⟨g, 3 * i, none⟩ : Addr) = ad4.add (i * 3) := by rw [← had4]; simp [Addr.add, Nat.mul_comm]
          have f1 : (⟨g, 3 * i + 1, none⟩ : Addr) = ⟨(ad4.add (i * 3)).block, (ad4.add (i * 3)).off + 1, none⟩ := by rw [← f0]
          have f2 : (⟨g, 3 * i + 2, none⟩ : Addr) = ⟨(ad4.add (i * 3)).block, (ad4.add (i * 3)).off + 2, none⟩ := by rw [← f0]
          rw [f0] at y0
          rw [f1] at y1
          rw [f2] at y2
          rw [had4]
          have Had4 := Lib.hid had4
          clear f0 f1 f2 had4 hcells
          obtain ⟨d, n, wh⟩ := s
          simp only at x0 x1 x2
          have bW : Below w6.heap.size w6 (wr.alloc (.cells #[.int .i64 d, .int .i64 n, .int .i64 wh] 32)) := hB.trans ((Below.refl _ _).alloc (by have := hB.size; omega) _)
          have q1 := (MapKept.heap_alloc wr (.cells #[.int .i64 d, .int .i64 n, .int .i64 wh] 32)).1
          have b4W := hd46.trans (bW.mono hd46.size)
          replace y0 := (b4W.cell (World.block_lt_of_cell? w4 _ y0)).trans y0
          replace y1 := (b4W.cell (World.block_lt_of_cell? w4 _ y1)).trans y1
          replace y2 := (b4W.cell (World.block_lt_of_cell? w4 _ y2)).trans y2
          unfold okR at hok
          simp only at hok
          by_cases d1 : d = 1
          · subst d1
            obtain ⟨hI', e0, en⟩ := seek_inv hI n wh
            obtain ⟨z, hz2⟩ : ∃ z, rrSeek st.2.1.length st.2.2 n wh = z := ⟨_, rfl⟩
            have hst : stR false st ⟨1, n, wh⟩ = ((st.1, st.2.1, z.2.2), ⟨[], z.1, z.2.1⟩) := by
              unfold stR; simp only; rw [if_neg (by decide), hz2]
            rw [hz2] at hI' e0 en
            rw [hst] at hH2 y1 y2 hda
            simp only at hH2 y1 y2 hda e0 en
            clear hz2 hst hok
            by_cases ez : z.2.1 = 0
            · have ezb : decide (z.2.1 = 0) = true := decide_eq_true ez
              have e1 := e0 ez
              rw [e1] at y1
              rw [ez] at y2
              clear e0 en e1
              go_wp2_with fail
              obtain rfl := Had4.out
              go_roundg g'
              case measure => omega
              case rel => exact ⟨i + 1, (st.1, st.2.1, z.2.2), rfl, by go_num, by omega, by omega, hI', Lib.hid hH2, bW⟩
            · have ezb : decide (z.2.1 = 0) = false := decide_eq_false ez
              have e1 := en ez
              rw [e1] at hI' hH2
              clear e0 en e1
              go_wp2_with fail
              obtain rfl := Had4.out
              go_roundg g'
              case measure => omega
              case rel => exact ⟨i + 1, (st.1, st.2.1, st.2.2), rfl, by go_num, by omega, by omega, hI', Lib.hid hH2, bW⟩
          · obtain ⟨rfl, hn1, hn5⟩ : d = 0 ∧ 1 ≤ n ∧ n ≤ 5000 := by rcases hok with h | h <;> omega
            clear hok d1
            obtain ⟨N, hN⟩ : ∃ N : Nat, n = (N : Int) := ⟨n.toNat, by omega⟩
            subst hN
            obtain ⟨hI', r1, r2, r3, r4⟩ := read_inv hI N
            obtain ⟨z, hz2⟩ : ∃ z, rrRead false N st.1 st.2.1 st.2.2 = z := ⟨_, rfl⟩
            have hst : stR false st ⟨0, (N : Int), wh⟩ = ((z.1, z.2.1, st.2.2 + z.2.2.1.length), ⟨z.2.2.1, 0, z.2.2.2⟩) := by
              unfold stR; simp only; simp only [if_true, Int.toNat_natCast]; rw [hz2]
            rw [hz2] at hI' r1 r2 r3 r4
            rw [hst] at hH2 y1 y2 hda
            simp only at hH2 y1 y2 hda
            have R1 := Lib.hid r1
            have R4 := Lib.hid r4
            clear hz2 hst y1 r1 r4
            obtain ⟨Ad, cdd, edv⟩ := hda.slice
            subst edv
            go_upto_region 17 with fail
            obtain ⟨W, hW⟩ : ∃ W, (wr.alloc (.cells #[.int .i64 0, .int .i64 (N : Int), .int .i64 wh] 32)) = W := ⟨_, rfl⟩
            rw [hW] at bW q1 b4W y0 y2
            rw [hW]
            obtain ⟨p, hp⟩ : ∃ p, st.2.2 = p := ⟨_, rfl⟩
            rw [hp] at hI' R1 r2 R4 hH2
            rw [hp]
            obtain ⟨dat, hdat⟩ : ∃ d, z.2.2.1 = d := ⟨_, rfl⟩
            rw [hdat] at hI' R1 r2 r3 R4 hH2 y0 hda
            rw [hdat]
            obtain ⟨cd, hcd⟩ : ∃ d, z.2.2.2 = d := ⟨_, rfl⟩
            rw [hcd] at y2 R4
            clear hW hp hdat hcd x0 x1 x2 hdv
            have g1 : decide ((p : Int) < 0) = false := decide_eq_false (by omega)
            have g2 : decide ((wl.length : Int) < (p : Int) + (dat.length : Int)) = false := decide_eq_false (by omega)
            have g3 : decide ((N : Int) < (dat.length : Int)) = false := decide_eq_false (by omega)
            have k0 : (0 : Int) ≤ (p : Int) := by omega
            have k1 : (p : Int) ≤ (p : Int) + (dat.length : Int) := by omega
            have k2 : (p : Int) + (dat.length : Int) ≤ (cw : Int) := by omega
            have k3 : ((p : Int) + (dat.length : Int)).toNat - p = dat.length := by omega
            have Y0 : ∀ n, (W.drewN n).cell? (ad4.add (i * 3)) = some (.slice Ad dat.length cdd) := fun n => y0
            have Y2 : ∀ n, (W.drewN n).cell? ⟨(ad4.add (i * 3)).block, (ad4.add (i * 3)).off + 2, none⟩ = some (.int .i64 cd) := fun n => y2
            have X1 : ∀ n, (W.drewN n).cell? ⟨wr.heap.size, 1, none⟩ = some (.int .i64 (N : Int)) := fun n => cellH q1 1 _ rfl
            have v1 : ∀ n, (convert 29 9 (.slice Ad dat.length cdd)).run Tryd.prog (W.drewN n) = .ok (.string (strOfNums dat)) (W.drewN n) := fun n =>
              conv_data (hda.moved (w' := W.drewN n) (vb' := vb) (fun k _ hk _ _ => b4W.block k hk) (.inl rfl))
            have v2 : ∀ n, (convert 29 9 (.slice (if cw = p then Aw else Option.map (fun x => x.add p) Aw) dat.length (cw - p))).run Tryd.prog (W.drewN n) = .ok (.string (strOfNums dat)) (W.drewN n) := fun n =>
              conv_sub (xs := wl) hcw (fun j x hj => by
                obtain ⟨D, e, _, h⟩ := hwc j x hj
                exact ⟨D, e, (bW.cell (World.block_lt_of_cell? w6 _ h)).trans h⟩) R1.out (by omega)
            obtain ⟨AA, hAA⟩ : ∃ AA, (if cw = p then Aw else Option.map (fun x => x.add p) Aw) = AA := ⟨_, rfl⟩
            have HAA := Lib.hid hAA
            clear hAA
            have g3b : decide (N < dat.length) = false := decide_eq_false (by omega)
            by_cases h1 : cd = 1
            · have h1b : decide (cd = 1) = true := decide_eq_true h1
              have h4 := R4.out h1
              have h4b : decide ((p : Int) + (dat.length : Int) = (wl.length : Int)) = true := decide_eq_true (by omega)
              have h4c : ((p : Int) + (dat.length : Int) != (wl.length : Int)) = false := by rw [bne_eq_false_iff_eq]; omega
              go_quiet (fail)
              rw [HAA.out]
              go_wp2_with fail
              obtain rfl := Had4.out
              go_roundg g'
              case measure => omega
              case rel => exact ⟨i + 1, (z.1, z.2.1, p + dat.length), by go_num, by go_num, by omega, by omega, hI', Lib.hid hH2, pw_below_drewN bW _⟩
            · have h1b : decide (cd = 1) = false := decide_eq_false h1
              have h1c : (cd == 1) = false := by simpa using h1
              go_quiet (fail)
              rw [HAA.out]
              go_wp2_with fail
              obtain rfl := Had4.out
              go_roundg g'
              case measure => omega
              case rel => exact ⟨i + 1, (z.1, z.2.1, p + dat.length), by go_num, by go_num, by omega, by omega, hI', Lib.hid hH2, pw_below_drewN bW _⟩
        · have hltb : decide ((i : Int) < (steps.length : Int)) = false := decide_eq_false (by omega)
          go_wp2
          go_ret
          exact ⟨rfl, b6.trans (hB.mono b6.size)⟩
end Go.Proofs.YtgbcmjbiddkldaaDoor.Given
