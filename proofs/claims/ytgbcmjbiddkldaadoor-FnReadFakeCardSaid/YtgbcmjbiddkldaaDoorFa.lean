/- The walk of laws.FnReadFake. -/
import Derived.Test.YtgbcmjbiddkldaaDoorMf
import Derived.Test.YtgbcmjbiddkldaaDoorIn
import Derived.Test.YtgbcmjbiddkldaaDoorIi
import Derived.Test.YtgbcmjbiddkldaaDoorPp
import Derived.Test.YtgbcmjbiddkldaaDoorPRx2
namespace Go.Proofs.YtgbcmjbiddkldaaDoor.Given
open Go.RowKit Go.Proofs.YtgbcmjbiddkldaaDoorW.PrintWords Go.Proofs.YtgbcmjbiddkldaaDoorW.PrintLast Go.Proofs.YtgbcmjbiddkldaaDoorW.PrintMore Go.Proofs.YtgbcmjbiddkldaaDoor.PR Go.Proofs.YtgbcmjbiddkldaaDoor.Pl
attribute [local go_sem] max2_int min2_int max_two min_two
set_option linter.unusedVariables false
set_option linter.unusedSimpArgs false

theorem kinds01f (w : World) : Kd.C (Kd.int .i64) (w.alloc (.cells #[.int .i64 0, .int .i64 1] 3)) (some ⟨w.heap.size, 0, none⟩) 2 [0, 1] := by
  have r1 := (MapKept.heap_alloc w (.cells #[.int .i64 0, .int .i64 1] 3)).1
  exact ⟨rfl, by omega, fun _ => ⟨_, rfl, fun j p hj => by
    rcases j with _ | _ | j
    · cases hj; exact ⟨[.int .i64 0], rfl, rfl, one_at (cellM r1 0 _ rfl)⟩
    · cases hj; exact ⟨[.int .i64 1], rfl, rfl, one_at (cellM r1 1 _ rfl)⟩
    · cases hj⟩⟩
theorem idx43_0 (p q r : Int) (w : World) : (Instr.index 43 (.agg #[.int .i64 p, .int .i64 q, .int .i64 r]) (.int .i64 0)).run Tryd.prog w = .ok (.int .i64 p) w := by kernel_rfl
theorem idx43_1 (p q r : Int) (w : World) : (Instr.index 43 (.agg #[.int .i64 p, .int .i64 q, .int .i64 r]) (.int .i64 1)).run Tryd.prog w = .ok (.int .i64 q) w := by kernel_rfl
theorem idx43_2 (p q r : Int) (w : World) : (Instr.index 43 (.agg #[.int .i64 p, .int .i64 q, .int .i64 r]) (.int .i64 2)).run Tryd.prog w = .ok (.int .i64 r) w := by kernel_rfl
set_option maxHeartbeats 4000000 in
set_option maxRecDepth 100000 in
theorem fake_law (w : World) (a : Addr) (M0 : Nat) (A0 : Option Addr) (c0 : Nat) (l : List (List Int)) (fails : Bool) (len : Int) (A1 : Option Addr) (c1 : Nat) (steps : List S32) (hL : LaidE w a M0) (hC : Kd.C (Kd.slice 5 (Kd.int .u8)) w A0 l.length l) (hc : l.length ≤ c0) (hS : Kd.C k32 w A1 steps.length steps) (hc1 : steps.length ≤ c1) :
    Calls Tryd.prog 5 #[.slice A0 l.length c0, .bool fails, .int .i64 len, .slice A1 steps.length c1] w fun e w' => e = .returned (.bool true) ∧ Below w.heap.size w w' := by
  obtain ⟨b1, hb1, hq1⟩ := fits_some l
  have c7 := fun (w : World) (hC : Kd.C (Kd.slice 5 (Kd.int .u8)) w A0 l.length l) => (laws_zzFits14.calls _ A0 c0 l _ w hC hc hb1).mono (fun e w' h => (⟨h.1, h.2.below⟩ : e = .returned (.bool b1) ∧ Below w.heap.size w w'))
  cases b1 with
  | false =>
    clear hb1 hq1
    go_enter Tryd.func5, Tryd.ntmps5
    go_wp2_with (go_at_call 7; go_must (refine (c7 _ hC).mono ?_; rintro e w1 ⟨rfl, hd1⟩))
    go_ret
    exact ⟨rfl, hd1⟩
  | true =>
    obtain ⟨hl1, hl2⟩ := hq1 rfl
    have hin := in_is l hl1 hl2
    by_cases hz : 2147483647 < steps.length
    · have hzb : decide ((2147483647 : Int) < (steps.length : Int)) = true := decide_eq_true (by omega)
      clear hb1 hq1 hl1 hl2 hin
      go_enter Tryd.func5, Tryd.ntmps5
      go_wp2_with (go_at_call 7; go_must (refine (c7 _ hC).mono ?_; rintro e w1 ⟨rfl, hd1⟩))
      go_ret
      exact ⟨rfl, hd1⟩
    have hzb : decide ((2147483647 : Int) < (steps.length : Int)) = false := decide_eq_false (by omega)
    by_cases hpi : l.length ≤ 30 ∧ l.flatten.length ≤ 4000
    case neg =>
      rw [decide_eq_false hpi] at hin
      have c8 := fun (w : World) (hC : Kd.C (Kd.slice 5 (Kd.int .u8)) w A0 l.length l) => (spec_PartsIn.calls _ A0 c0 l _ w hC hc hin).mono (fun e w' h => (⟨h.1, h.2.below⟩ : e = .returned (.bool false) ∧ Below w.heap.size w w'))
      clear hin hb1 hl1 hl2 hpi hq1
      go_enter Tryd.func5, Tryd.ntmps5
      go_wp2_with (first
        | (go_at_call 7; go_must (refine (c7 _ hC).mono ?_; rintro e w1 ⟨rfl, hd1⟩); have hC1 := Kd.C_below hC hd1)
        | (go_at_call 8; go_must (refine (c8 _ hC1).mono ?_; rintro e w2 ⟨rfl, hd2⟩)))
      go_ret
      exact ⟨rfl, hd1.trans (hd2.mono hd1.size)⟩
    rw [decide_eq_true hpi] at hin
    have c8 := fun (w : World) (hC : Kd.C (Kd.slice 5 (Kd.int .u8)) w A0 l.length l) => (spec_PartsIn.calls _ A0 c0 l _ w hC hc hin).mono (fun e w' h => (⟨h.1, h.2.below⟩ : e = .returned (.bool true) ∧ Below w.heap.size w w'))
    by_cases n1 : len < 0
    · have n1b : decide (len < 0) = true := by exact decide_eq_true n1
      clear hin hb1 hl1 hl2 hpi hq1
      go_enter Tryd.func5, Tryd.ntmps5
      go_wp2_with (first
        | (go_at_call 7; go_must (refine (c7 _ hC).mono ?_; rintro e w1 ⟨rfl, hd1⟩); have hC1 := Kd.C_below hC hd1)
        | (go_at_call 8; go_must (refine (c8 _ hC1).mono ?_; rintro e w2 ⟨rfl, hd2⟩)))
      go_ret
      exact ⟨rfl, hd1.trans (hd2.mono hd1.size)⟩
    have n1b : decide (len < 0) = false := decide_eq_false n1
    by_cases n2 : 1099511627776 < len
    · have n2b : decide (1099511627776 < len) = true := by exact decide_eq_true n2
      clear hin hb1 hl1 hl2 hpi hq1
      go_enter Tryd.func5, Tryd.ntmps5
      go_wp2_with (first
        | (go_at_call 7; go_must (refine (c7 _ hC).mono ?_; rintro e w1 ⟨rfl, hd1⟩); have hC1 := Kd.C_below hC hd1)
        | (go_at_call 8; go_must (refine (c8 _ hC1).mono ?_; rintro e w2 ⟨rfl, hd2⟩)))
      go_ret
      exact ⟨rfl, hd1.trans (hd2.mono hd1.size)⟩
    have n2b : decide (1099511627776 < len) = false := decide_eq_false n2
    obtain ⟨b9, hb9, hq9⟩ := rin_some steps (by omega)
    have c9 := fun (w : World) (hS : Kd.C k32 w A1 steps.length steps) => (laws_readIn.calls _ A1 c1 steps (some ⟨w.heap.size, 0, none⟩) 2 [0, 1] _ _ (Kd.C_alloc hS _) hc1 (kinds01f w) (Nat.le_refl _) hb9).mono (fun e w' h => (⟨h.1, ((Below.refl _ w).alloc (Nat.le_refl _) _).trans (h.2.mono (by simp))⟩ : e = .returned (.bool b9) ∧ Below w.heap.size w w'))
    cases b9 with
    | false =>
      clear hin hb1 hl1 hl2 hpi hq1 hb9 hq9
      go_enter Tryd.func5, Tryd.ntmps5
      go_wp2_with (first
        | (go_at_call 7; go_must (refine (c7 _ hC).mono ?_; rintro e w1 ⟨rfl, hd1⟩); have hC1 := Kd.C_below hC hd1; have hS1 := Kd.C_below hS hd1)
        | (go_at_call 8; go_must (refine (c8 _ hC1).mono ?_; rintro e w2 ⟨rfl, hd2⟩); have hS2 := Kd.C_below hS1 hd2)
        | (go_at_call 9; go_must (refine (c9 _ hS2).mono ?_; rintro e w3 ⟨rfl, hd3⟩)))
      go_ret
      exact ⟨rfl, (hd1.trans (hd2.mono hd1.size)).trans (hd3.mono (Nat.le_trans hd1.size hd2.size))⟩
    | true =>
      obtain ⟨hs60, hoks⟩ := hq9 rfl
      have hple := part_le (K := 100000) (Nat.le_trans hpi.2 (by omega))
      have c11 := fun (w : World) (hL : LaidE w a M0) => awake_any w a M0 hL
      have c10 := fun (w : World) (hL : LaidE w a M0) (hC : Kd.C (Kd.slice 5 (Kd.int .u8)) w A0 l.length l) (hS : Kd.C k32 w A1 steps.length steps) => fake_any w a M0 A0 c0 l fails len ⟨by omega, by omega⟩ A1 c1 steps hL hC hc hpi.1 hple hS hc1 hs60 hoks
      have hMle := hL.le
      have hpl0 := hpi.1
      have IRi := fun (w : World) (hC : Kd.C (Kd.slice 5 (Kd.int .u8)) w A0 l.length l) => IR.init (fails := fails) hC hc
      clear hin hb1 hl1 hl2 hpi hq1 hb9 hq9
      go_enter Tryd.func5, Tryd.ntmps5
      go_upto_region 8 with (first
        | (go_at_call 7; go_must (refine (c7 _ hC).mono ?_; rintro e w1 ⟨rfl, hd1⟩); have hC1 := Kd.C_below hC hd1; have hS1 := Kd.C_below hS hd1)
        | (go_at_call 8; go_must (refine (c8 _ hC1).mono ?_; rintro e w2 ⟨rfl, hd2⟩); have hC2 := Kd.C_below hC1 hd2; have hS2 := Kd.C_below hS1 hd2)
        | (go_at_call 9; go_must (refine (c9 _ hS2).mono ?_; rintro e w3 ⟨rfl, hd3⟩); have hC3 := Kd.C_below hC2 hd3; have hS3 := Kd.C_below hS2 hd3; have b3 := (hd1.trans (hd2.mono hd1.size)).trans (hd3.mono (Nat.le_trans hd1.size hd2.size)); have hL3 : LaidE w3 a M0 := hL.below (fun k hk => b3.block k (Nat.lt_of_lt_of_le hk hMle)) b3.size)
        | (go_at_call 15; go_must (refine (c10 _ hL3 hC3 hS3).mono ?_; rintro e w4 ⟨v4, xs, rfl, hxs, hout, hd4⟩); have hxl : xs.length = steps.length := (by have := congrArg List.length hxs; simpa [runF_length] using this); obtain ⟨Ag, cg, ev4⟩ := own_slice hout.own; rw [hxl] at ev4; subst ev4; have b4 := b3.trans (hd4.mono b3.size); have hC4 := Kd.C_below hC3 hd4; have hS4 := Kd.C_below hS3 hd4; have hL4 : LaidE w4 a M0 := hL.below (fun k hk => b4.block k (Nat.lt_of_lt_of_le hk hMle)) b4.size)
        | (go_at_call 11; go_must (refine (c11 _ hL4).mono ?_; rintro e w5 ⟨rfl, hd5⟩); have b5 := b4.trans (hd5.mono b4.size); have hC5 := Kd.C_below hC4 hd5; have hS5 := Kd.C_below hS4 hd5))
      have hIR := IRi w5 hC5
      obtain ⟨X, hX⟩ : ∃ X, w5.heap.size = X := ⟨_, rfl⟩
      rw [hX] at hIR
      have hB6 : Below X w5 (w5.alloc (.cells #[.slice A0 l.length c0, .bool fails] 38)) := (Below.refl _ _).alloc (by omega) _
      have hXs : X ≤ (w5.alloc (.cells #[.slice A0 l.length c0, .bool fails] 38)).heap.size := by simp; omega
      have HX := Lib.hid hX
      have B5 := Lib.hid b5
      have D5 := Lib.hid hd5
      have H11 := hoks
      clear c7 c8 c9 c10 c11 hd1 hd2 hd3 hd4 hd5 hC1 hC2 hC3 hC4 hC5 hS1 hS2 hS3 hS4 hL3 hL4 b3 b4 b5 IRi hoks
      go_upto_region 11 with fail
      try rw [hX]
      clear hX
      go_loopg [11, 12, 13, 61] steps.length (fun gf s11 s12 s13 s61 wx => ∃ (i : Nat) (st : FSt), s11 = .int .i64 st.off ∧ s12 = .bool st.rd ∧ s13 = .int .i64 st.err ∧ s61 = .int .i64 (i : Int) ∧ i ≤ steps.length ∧ steps.length ≤ i + gf ∧ IR wx X X fails st.ps ∧ X ≤ wx.heap.size ∧ (∀ p ∈ st.ps, p.length ≤ 100000) ∧ st.ps.length ≤ 30 ∧ (0 ≤ st.off ∧ st.off ≤ 1099511627776 * ((i : Int) + 1)) ∧ (st.err = 0 ∨ st.err = 1 ∨ st.err = 2) ∧ Hid ((xs.drop i).map (·.2) = runF fails len st (steps.drop i)) ∧ Below X w5 wx)
      case atStart => exact ⟨0, ⟨l, 0, 0, false⟩, rfl, rfl, rfl, rfl, Nat.zero_le _, by omega, hIR, hXs, hple, hpl0, by simp, .inl rfl, Lib.hid (by simpa using hxs), hB6⟩
      case round =>
        clear hIR hB6 hXs hxs
        obtain ⟨i, st, rfl, rfl, rfl, rfl, hi, hfu, hI, hXr, hp6, hl6, hoB, hec, hH, hB⟩ := hrel
        by_cases hlt : i < steps.length
        · obtain ⟨g', rfl⟩ : ∃ g', gk = g' + 1 := ⟨gk - 1, by omega⟩
          have hltb : decide ((i : Int) < (steps.length : Int)) = true := decide_eq_true (by omega)
          obtain ⟨ad, hA1, x0, x1, x2⟩ := at_T32 (Kd.C_below hS5 (by rw [HX.out]; exact hB)) (i : Int) (by omega) (by omega)
          have hsl : rd_T32 steps (i : Int) = steps[i] := by simp [rd_T32, hlt]
          rw [hsl] at x0 x1 x2
          have hok := H11 _ (List.getElem_mem hlt)
          have hi2 : i < xs.length := by omega
          obtain ⟨g, cg', e4, hcells⟩ := outs_at hout (by omega)
          obtain ⟨y0, y1, y2⟩ := hcells i hi2
          have hda := hout.data _ (List.getElem_mem hi2)
          rw [hxl] at e4
          cases e4
          have hH1 := hH.out
          rw [List.drop_eq_getElem_cons hlt, List.drop_eq_getElem_cons hi2] at hH1
          simp only [List.map_cons, runF, List.cons.injEq] at hH1
          obtain ⟨hH1, hH2⟩ := hH1
          rw [hH1] at y1 y2 hda
          obtain ⟨s, hs⟩ : ∃ s, steps[i] = s := ⟨_, rfl⟩
          rw [hs] at x0 x1 x2 hH2 hok y1 y2 hda
          obtain ⟨dv, hdv⟩ : ∃ dv, xs[i].1 = dv := ⟨_, rfl⟩
          rw [hdv] at y0 hda
          simp only [Int.toNat_natCast] at x0 x1 x2
          subst hA1
          obtain ⟨ad4, had4⟩ : ∃ z : Addr, (⟨g, 0, none⟩ : Addr) = z := ⟨_, rfl⟩
          have f0 : (⟨g, 3 * i, none⟩ : Addr) = ad4.add (i * 3) := by rw [← had4]; simp [Addr.add, Nat.mul_comm]
          have f1 : (⟨g, 3 * i + 1, none⟩ : Addr) = ⟨(ad4.add (i * 3)).block, (ad4.add (i * 3)).off + 1, none⟩ := by rw [← f0]
          have f2 : (⟨g, 3 * i + 2, none⟩ : Addr) = ⟨(ad4.add (i * 3)).block, (ad4.add (i * 3)).off + 2, none⟩ := by rw [← f0]
          rw [f0] at y0
          rw [f1] at y1
          rw [f2] at y2
          rw [had4]
          have Had4 := Lib.hid had4
          clear f0 f1 f2 had4 hcells
          obtain ⟨d, n, wh⟩ := s
          simp only at x0 x1 x2
          have b0W : Below wr.heap.size wr (wr.alloc (.cells #[.int .i64 d, .int .i64 n, .int .i64 wh] 32)) := (Below.refl _ _).alloc (Nat.le_refl _) _
          have hIW := hI.moved hXr b0W.block
          have bW : Below X w5 (wr.alloc (.cells #[.int .i64 d, .int .i64 n, .int .i64 wh] 32)) := hB.trans (b0W.mono hXr)
          have q1 := (MapKept.heap_alloc wr (.cells #[.int .i64 d, .int .i64 n, .int .i64 wh] 32)).1
          have hXW : X ≤ (wr.alloc (.cells #[.int .i64 d, .int .i64 n, .int .i64 wh] 32)).heap.size := Nat.le_trans hXr b0W.size
          have h4X : w4.heap.size ≤ X := by have := D5.out.size; have := HX.out; omega
          have b45 : Below w4.heap.size w4 w5 := D5.out
          have b4W := b45.trans (bW.mono h4X)
          have s4y0 := World.block_lt_of_cell? w4 _ y0
          have s4y2 := World.block_lt_of_cell? w4 _ y2
          replace y0 := (b4W.cell s4y0).trans y0
          replace y1 := (b4W.cell (World.block_lt_of_cell? w4 _ y1)).trans y1
          replace y2 := (b4W.cell s4y2).trans y2
          unfold okR at hok
          simp only at hok
          clear b0W b45
          obtain ⟨ps, err, off, rd⟩ := st
          simp only at hI hp6 hl6 hoB hec hH2 y1 y2 hda hIW
          have hi61 : i < 60 := by omega
          by_cases d1 : d = 1
          · subst d1
            obtain ⟨hw1, hb1⟩ : (0 ≤ wh ∧ wh ≤ 2) ∧ (-1099511627776 ≤ n ∧ n ≤ 1099511627776) := by rcases hok with h | h <;> omega
            have hst : stF fails len ⟨ps, err, off, rd⟩ ⟨1, n, wh⟩ = ((fkSeek len ⟨ps, err, off, rd⟩ n wh).1, ⟨[], (fkSeek len ⟨ps, err, off, rd⟩ n wh).2.1, (fkSeek len ⟨ps, err, off, rd⟩ n wh).2.2⟩) := by
              unfold stF; simp only; rw [if_neg (by decide)]
            rw [hst] at hH2 y1 y2 hda
            simp only at hH2 y1 y2 hda
            clear hst hok
            cases rd with
            | true =>
              have hcne : (fkSeek len ⟨ps, err, off, true⟩ n wh).2.2 ≠ 0 := by
                unfold fkSeek
                simp only
                split
                · assumption
                · simp
              obtain ⟨cd, hcd⟩ : ∃ cd, (fkSeek len ⟨ps, err, off, true⟩ n wh).2.2 = cd := ⟨_, rfl⟩
              rw [hcd] at hcne y2
              have hcb : (cd == 0) = false := by simpa using hcne
              have hcb2 : (cd != 0) = true := by simpa using hcne
              clear hcd hH2 hcne y1
              go_wp2_with fail
              go_ret
              exact ⟨rfl, B5.out.trans (bW.mono (by rw [← HX.out]; exact B5.out.size))⟩
            | false =>
              by_cases he0 : err = 0
              · subst he0
                obtain ⟨A, hA⟩ : ∃ A, absF len ⟨ps, 0, off, false⟩ n wh = A := ⟨_, rfl⟩
                have hsk : fkSeek len ⟨ps, 0, off, false⟩ n wh = if A < 0 then (⟨ps, 0, off, false⟩, 0, 3) else (⟨ps, 0, A, false⟩, A, 0) := by
                  unfold fkSeek
                  rw [hA]
                  simp
                rw [hsk] at hH2 y1 y2
                clear hsk
                unfold absF at hA
                simp only at hA
                have hwr : ∀ x : Int, -4611686018427387904 ≤ x ∧ x ≤ 4611686018427387904 → wrap64 x = x := fun x hx => wrap64_id (by omega) (by omega)
                have x1q : ∀ m, ((wr.alloc (.cells #[.int .i64 1, .int .i64 n, .int .i64 wh] 32)).drewN m).cell? ⟨wr.heap.size, 1, none⟩ = some (.int .i64 n) := fun m => cellH q1 1 _ rfl
                have x2q : ∀ m, ((wr.alloc (.cells #[.int .i64 1, .int .i64 n, .int .i64 wh] 32)).drewN m).cell? ⟨wr.heap.size, 2, none⟩ = some (.int .i64 wh) := fun m => cellH q1 2 _ rfl
                have e1 : wrap64 (-off) = -off := hwr _ (by omega)
                have e2 : wrap64 (len - off) = len - off := hwr _ (by omega)
                have hwh : (wh = 0 ∧ n = A) ∨ (wh = 1 ∧ off + n = A) ∨ (wh = 2 ∧ len + n = A) := by
                  rw [← hA]
                  by_cases h0 : wh = 0
                  · left; simp [h0]
                  · by_cases h1 : wh = 1
                    · right; left; simp [h1]
                    · right; right; simp [h0, h1]; omega
                have hAb : A ≤ 1099511627776 * ((i : Int) + 1 + 1) ∧ -1099511627776 ≤ A := by rcases hwh with ⟨_, h⟩ | ⟨_, h⟩ | ⟨_, h⟩ <;> omega
                clear hA
                have ix0 := idx43_0
                have ix1 := idx43_1
                have ix2 := idx43_2
                have key : ∀ B C : Int, wrap64 (B + n) = C → wrap64 (off + C) = A → True := fun _ _ _ _ => trivial
                have Y1 : ∀ m, ((wr.alloc (.cells #[.int .i64 1, .int .i64 n, .int .i64 wh] 32)).drewN m).cell? ⟨(ad4.add (i * 3)).block, (ad4.add (i * 3)).off + 1, none⟩ = some (.int .i64 (if A < 0 then ((⟨ps, 0, off, false⟩ : FSt), (0 : Int), (3 : Int)) else (⟨ps, 0, A, false⟩, A, 0)).2.1) := fun m => y1
                have Y2 : ∀ m, ((wr.alloc (.cells #[.int .i64 1, .int .i64 n, .int .i64 wh] 32)).drewN m).cell? ⟨(ad4.add (i * 3)).block, (ad4.add (i * 3)).off + 2, none⟩ = some (.int .i64 (if A < 0 then ((⟨ps, 0, off, false⟩ : FSt), (0 : Int), (3 : Int)) else (⟨ps, 0, A, false⟩, A, 0)).2.2) := fun m => y2
                clear y1 y2
                rcases hwh with ⟨rfl, rfl⟩ | ⟨rfl, hs⟩ | ⟨rfl, hs⟩
                · have e3 : wrap64 (-off + n) = n - off := by rw [hwr _ (by omega)]; omega
                  have e4 : wrap64 (off + (n - off)) = n := by rw [hwr _ (by omega)]; omega
                  by_cases c1 : n < 0
                  · have c1b : decide (n < 0) = true := decide_eq_true c1
                    clear hH2 Y1 Y2 hwr
                    go_upto_region 24 with fail
                    go_quiet (fail)
                    go_wp2_with fail
                    go_ret
                    exact ⟨rfl, B5.out.trans ((pw_below_drewN bW _).mono (by rw [← HX.out]; exact B5.out.size))⟩
                  · have c1b : decide (n < 0) = false := decide_eq_false c1
                    rw [if_neg c1] at hH2
                    simp only [if_neg c1] at Y1 Y2
                    simp only at hH2
                    clear hwr
                    go_upto_region 24 with fail
                    go_quiet (fail)
                    go_wp2_with fail
                    obtain rfl := Had4.out
                    go_roundg g'
                    case measure => omega
                    case rel => exact ⟨i + 1, ⟨ps, 0, n, false⟩, by go_num, by go_num, by go_num, by go_num, by omega, by omega, hIW, hXW, hp6, hl6, (by simp only; omega), .inl rfl, Lib.hid hH2, pw_below_drewN bW _⟩
                · have e3 : wrap64 (0 + n) = A - off := by rw [hwr _ (by omega)]; omega
                  have e3' : wrap64 n = A - off := by rw [hwr _ (by omega)]; omega
                  have e4 : wrap64 (off + (A - off)) = A := by rw [hwr _ (by omega)]; omega
                  by_cases c1 : A < 0
                  · have c1b : decide (A < 0) = true := decide_eq_true c1
                    clear hH2 Y1 Y2 hwr
                    go_upto_region 24 with fail
                    go_quiet (fail)
                    go_wp2_with fail
                    go_ret
                    exact ⟨rfl, B5.out.trans ((pw_below_drewN bW _).mono (by rw [← HX.out]; exact B5.out.size))⟩
                  · have c1b : decide (A < 0) = false := decide_eq_false c1
                    rw [if_neg c1] at hH2
                    simp only [if_neg c1] at Y1 Y2
                    simp only at hH2
                    clear hwr
                    go_upto_region 24 with fail
                    go_quiet (fail)
                    go_wp2_with fail
                    obtain rfl := Had4.out
                    go_roundg g'
                    case measure => omega
                    case rel => exact ⟨i + 1, ⟨ps, 0, A, false⟩, by go_num, by go_num, by go_num, by go_num, by omega, by omega, hIW, hXW, hp6, hl6, (by simp only; omega), .inl rfl, Lib.hid hH2, pw_below_drewN bW _⟩
                · have e3 : wrap64 (len - off + n) = A - off := by rw [hwr _ (by omega)]; omega
                  have e4 : wrap64 (off + (A - off)) = A := by rw [hwr _ (by omega)]; omega
                  by_cases c1 : A < 0
                  · have c1b : decide (A < 0) = true := decide_eq_true c1
                    clear hH2 Y1 Y2 hwr
                    go_upto_region 24 with fail
                    go_quiet (fail)
                    go_wp2_with fail
                    go_ret
                    exact ⟨rfl, B5.out.trans ((pw_below_drewN bW _).mono (by rw [← HX.out]; exact B5.out.size))⟩
                  · have c1b : decide (A < 0) = false := decide_eq_false c1
                    rw [if_neg c1] at hH2
                    simp only [if_neg c1] at Y1 Y2
                    simp only at hH2
                    clear hwr
                    go_upto_region 24 with fail
                    go_quiet (fail)
                    go_wp2_with fail
                    obtain rfl := Had4.out
                    go_roundg g'
                    case measure => omega
                    case rel => exact ⟨i + 1, ⟨ps, 0, A, false⟩, by go_num, by go_num, by go_num, by go_num, by omega, by omega, hIW, hXW, hp6, hl6, (by simp only; omega), .inl rfl, Lib.hid hH2, pw_below_drewN bW _⟩
              · have heb : (err == 0) = false := by simpa using he0
                have heb2 : (err != 0) = true := by simpa using he0
                clear hH2 y1 y2
                go_wp2_with fail
                go_ret
                exact ⟨rfl, B5.out.trans (bW.mono (by rw [← HX.out]; exact B5.out.size))⟩
          · obtain ⟨rfl, hn1, hn5⟩ : d = 0 ∧ 1 ≤ n ∧ n ≤ 5000 := by rcases hok with h | h <;> omega
            clear hok d1
            obtain ⟨Nn, hN⟩ : ∃ N : Nat, n = (N : Int) := ⟨n.toNat, by omega⟩
            subst hN
            have hst : stF fails len ⟨ps, err, off, rd⟩ ⟨0, (Nn : Int), wh⟩ = ((fkRead fails Nn ⟨ps, err, off, rd⟩).1, ⟨(fkRead fails Nn ⟨ps, err, off, rd⟩).2.1, 0, (fkRead fails Nn ⟨ps, err, off, rd⟩).2.2⟩) := by
              unfold stF; simp only; simp only [if_true, Int.toNat_natCast]
            rw [hst] at hH2 y1 y2 hda
            simp only at hH2 y1 y2 hda
            clear hst y1
            by_cases he0 : err = 0
            · subst he0
              by_cases hno : rd = false ∧ off ≠ 0
              · obtain ⟨rfl, ho⟩ := hno
                have hf : fkRead fails Nn ⟨ps, 0, off, false⟩ = (⟨ps, 0, off, false⟩, [], 3) := by
                  unfold fkRead
                  simp [ho]
                rw [hf] at y2 hda
                simp only at y2 hda
                clear hf hH2
                have hob : (off == 0) = false := by simpa using ho
                have hob2 : (off != 0) = true := by simpa using ho
                obtain ⟨Ad, cdd, edv⟩ := hda.slice
                subst edv
                go_wp2_with fail
                go_ret
                exact ⟨rfl, B5.out.trans (bW.mono (by rw [← HX.out]; exact B5.out.size))⟩
              · have hf : fkRead fails Nn ⟨ps, 0, off, rd⟩ = (⟨(rdP fails Nn ps).2.2, (rdP fails Nn ps).2.1, off, rd || decide ((rdP fails Nn ps).1.length ≠ 0)⟩, (rdP fails Nn ps).1, (rdP fails Nn ps).2.1) := by
                  unfold fkRead
                  simp only [ne_eq, not_true_eq_false, if_false]
                  rw [if_neg hno]
                rw [hf] at y2 hda hH2
                simp only at y2 hda hH2
                have hcd := rdP_code fails Nn ps
                have hpp := rdP_parts fails Nn ps
                have hird := iread X X Nn fails ps (wr.alloc (.cells #[.int .i64 0, .int .i64 (Nn : Int), .int .i64 wh] 32)) hIW (by omega) (by omega) hXW (by omega) (fun p hp => Nat.le_trans (hp6 p hp) (by omega))
                obtain ⟨z, hz2⟩ : ∃ z, rdP fails Nn ps = z := ⟨_, rfl⟩
                rw [hz2] at hird hpp hcd y2 hda hH2
                obtain ⟨hz1, hz3, hz4⟩ := hpp
                have hp7 : ∀ p ∈ z.2.2, p.length ≤ 100000 := hz4 100000 hp6
                have hr7 : z.2.2.length ≤ 30 := by omega
                clear hf hz2 hz1 hz3 hz4
                have hgo : (rd = true) ∨ (rd = false ∧ off = 0) := by
                  cases rd with
                  | true => exact .inl rfl
                  | false => exact .inr ⟨rfl, by simpa using hno⟩
                clear hno
                obtain ⟨Ad, cdd, edv⟩ := hda.slice
                subst edv
                have x1W := cellH q1 1 (.int .i64 (Nn : Int)) rfl
                have hoB7 : 0 ≤ off ∧ off ≤ 1099511627776 * (((i + 1 : Nat) : Int) + 1) := by omega
                rcases hgo with rfl | ⟨rfl, rfl⟩
                · by_cases ho : off = 0
                  · subst ho
                    go_upto_region 17 with (go_at_call 14; go_must (refine hird.mono ?_; rintro e w7 ⟨dv2, rfl, hR7, hI7, hO7⟩); obtain ⟨Ad2, cd2, edv2⟩ := hR7.form; subst edv2)
                    have hO8 : Below X (wr.alloc (.cells #[.int .i64 0, .int .i64 (Nn : Int), .int .i64 wh] 32)) w7 := ⟨hO7.os, hO7.tape, hO7.output, hO7.size, fun k hk => hO7.block k (by omega) (by omega)⟩
                    have bW7 := bW.trans hO8
                    have b47 := b4W.trans (hO8.mono h4X)
                    have hX7 := Nat.le_trans hXW hO7.size
                    have Y0 : ∀ n, (w7.drewN n).cell? (ad4.add (i * 3)) = some (.slice Ad z.1.length cdd) := fun n => (hO8.cell (Nat.lt_of_lt_of_le s4y0 h4X)).trans y0
                    have Y2 : ∀ n, (w7.drewN n).cell? ⟨(ad4.add (i * 3)).block, (ad4.add (i * 3)).off + 2, none⟩ = some (.int .i64 z.2.1) := fun n => (hO8.cell (p := ⟨(ad4.add (i * 3)).block, (ad4.add (i * 3)).off + 2, none⟩) (Nat.lt_of_lt_of_le s4y2 h4X)).trans y2
                    have v1 : ∀ n, (convert 29 9 (.slice Ad z.1.length cdd)).run Tryd.prog (w7.drewN n) = .ok (.string (strOfNums z.1)) (w7.drewN n) := fun n =>
                      conv_data (hda.moved (w' := w7.drewN n) (vb' := nilV) (fun k _ hk _ _ => b47.block k hk) (.inl rfl))
                    have v2 : ∀ n, (convert 29 9 (.slice Ad2 z.1.length cd2)).run Tryd.prog (w7.drewN n) = .ok (.string (strOfNums z.1)) (w7.drewN n) := fun n => conv_rdb (w := w7.drewN n) (M := X) hR7
                    clear x0 x1 x2 hdv hO7 hO8 x1W
                    go_quiet (fail)
                    go_wp2_with fail
                    obtain rfl := Had4.out
                    go_roundg g'
                    case measure => omega
                    case rel => exact ⟨i + 1, ⟨z.2.2, z.2.1, _, true⟩, by go_num, by go_num, by go_num, by go_num, by omega, by omega, hI7, hX7, hp7, hr7, hoB7, hcd, Lib.hid hH2, pw_below_drewN bW7 _⟩
                  · have hob : (off == 0) = false := by simpa using ho
                    have hob2 : (off != 0) = true := by simpa using ho
                    go_upto_region 17 with (go_at_call 14; go_must (refine hird.mono ?_; rintro e w7 ⟨dv2, rfl, hR7, hI7, hO7⟩); obtain ⟨Ad2, cd2, edv2⟩ := hR7.form; subst edv2)
                    have hO8 : Below X (wr.alloc (.cells #[.int .i64 0, .int .i64 (Nn : Int), .int .i64 wh] 32)) w7 := ⟨hO7.os, hO7.tape, hO7.output, hO7.size, fun k hk => hO7.block k (by omega) (by omega)⟩
                    have bW7 := bW.trans hO8
                    have b47 := b4W.trans (hO8.mono h4X)
                    have hX7 := Nat.le_trans hXW hO7.size
                    have Y0 : ∀ n, (w7.drewN n).cell? (ad4.add (i * 3)) = some (.slice Ad z.1.length cdd) := fun n => (hO8.cell (Nat.lt_of_lt_of_le s4y0 h4X)).trans y0
                    have Y2 : ∀ n, (w7.drewN n).cell? ⟨(ad4.add (i * 3)).block, (ad4.add (i * 3)).off + 2, none⟩ = some (.int .i64 z.2.1) := fun n => (hO8.cell (p := ⟨(ad4.add (i * 3)).block, (ad4.add (i * 3)).off + 2, none⟩) (Nat.lt_of_lt_of_le s4y2 h4X)).trans y2
                    have v1 : ∀ n, (convert 29 9 (.slice Ad z.1.length cdd)).run Tryd.prog (w7.drewN n) = .ok (.string (strOfNums z.1)) (w7.drewN n) := fun n =>
                      conv_data (hda.moved (w' := w7.drewN n) (vb' := nilV) (fun k _ hk _ _ => b47.block k hk) (.inl rfl))
                    have v2 : ∀ n, (convert 29 9 (.slice Ad2 z.1.length cd2)).run Tryd.prog (w7.drewN n) = .ok (.string (strOfNums z.1)) (w7.drewN n) := fun n => conv_rdb (w := w7.drewN n) (M := X) hR7
                    clear x0 x1 x2 hdv hO7 hO8 x1W
                    go_quiet (fail)
                    go_wp2_with fail
                    obtain rfl := Had4.out
                    go_roundg g'
                    case measure => omega
                    case rel => exact ⟨i + 1, ⟨z.2.2, z.2.1, _, true⟩, by go_num, by go_num, by go_num, by go_num, by omega, by omega, hI7, hX7, hp7, hr7, hoB7, hcd, Lib.hid hH2, pw_below_drewN bW7 _⟩
                · by_cases hz0 : z.1.length = 0
                  · have hzb : decide (0 < (z.1.length : Int)) = false := decide_eq_false (by omega)
                    have hzb2 : decide (0 < z.1.length) = false := decide_eq_false (by omega)
                    have hzc : (false || decide (z.1.length ≠ 0)) = false := by simp [hz0]
                    rw [hzc] at hH2
                    clear hzc hz0
                    go_upto_region 17 with (go_at_call 14; go_must (refine hird.mono ?_; rintro e w7 ⟨dv2, rfl, hR7, hI7, hO7⟩); obtain ⟨Ad2, cd2, edv2⟩ := hR7.form; subst edv2)
                    have hO8 : Below X (wr.alloc (.cells #[.int .i64 0, .int .i64 (Nn : Int), .int .i64 wh] 32)) w7 := ⟨hO7.os, hO7.tape, hO7.output, hO7.size, fun k hk => hO7.block k (by omega) (by omega)⟩
                    have bW7 := bW.trans hO8
                    have b47 := b4W.trans (hO8.mono h4X)
                    have hX7 := Nat.le_trans hXW hO7.size
                    have Y0 : ∀ n, (w7.drewN n).cell? (ad4.add (i * 3)) = some (.slice Ad z.1.length cdd) := fun n => (hO8.cell (Nat.lt_of_lt_of_le s4y0 h4X)).trans y0
                    have Y2 : ∀ n, (w7.drewN n).cell? ⟨(ad4.add (i * 3)).block, (ad4.add (i * 3)).off + 2, none⟩ = some (.int .i64 z.2.1) := fun n => (hO8.cell (p := ⟨(ad4.add (i * 3)).block, (ad4.add (i * 3)).off + 2, none⟩) (Nat.lt_of_lt_of_le s4y2 h4X)).trans y2
                    have v1 : ∀ n, (convert 29 9 (.slice Ad z.1.length cdd)).run Tryd.prog (w7.drewN n) = .ok (.string (strOfNums z.1)) (w7.drewN n) := fun n =>
                      conv_data (hda.moved (w' := w7.drewN n) (vb' := nilV) (fun k _ hk _ _ => b47.block k hk) (.inl rfl))
                    have v2 : ∀ n, (convert 29 9 (.slice Ad2 z.1.length cd2)).run Tryd.prog (w7.drewN n) = .ok (.string (strOfNums z.1)) (w7.drewN n) := fun n => conv_rdb (w := w7.drewN n) (M := X) hR7
                    clear x0 x1 x2 hdv hO7 hO8 x1W
                    go_quiet (fail)
                    go_wp2_with fail
                    obtain rfl := Had4.out
                    go_roundg g'
                    case measure => omega
                    case rel => exact ⟨i + 1, ⟨z.2.2, z.2.1, _, false⟩, by go_num, by go_num, by go_num, by go_num, by omega, by omega, hI7, hX7, hp7, hr7, hoB7, hcd, Lib.hid hH2, pw_below_drewN bW7 _⟩
                  · have hzb : decide (0 < (z.1.length : Int)) = true := decide_eq_true (by omega)
                    have hzb2 : decide (0 < z.1.length) = true := decide_eq_true (by omega)
                    have hzc : (false || decide (z.1.length ≠ 0)) = true := by simp [hz0]
                    rw [hzc] at hH2
                    clear hzc hz0
                    go_upto_region 17 with (go_at_call 14; go_must (refine hird.mono ?_; rintro e w7 ⟨dv2, rfl, hR7, hI7, hO7⟩); obtain ⟨Ad2, cd2, edv2⟩ := hR7.form; subst edv2)
                    have hO8 : Below X (wr.alloc (.cells #[.int .i64 0, .int .i64 (Nn : Int), .int .i64 wh] 32)) w7 := ⟨hO7.os, hO7.tape, hO7.output, hO7.size, fun k hk => hO7.block k (by omega) (by omega)⟩
                    have bW7 := bW.trans hO8
                    have b47 := b4W.trans (hO8.mono h4X)
                    have hX7 := Nat.le_trans hXW hO7.size
                    have Y0 : ∀ n, (w7.drewN n).cell? (ad4.add (i * 3)) = some (.slice Ad z.1.length cdd) := fun n => (hO8.cell (Nat.lt_of_lt_of_le s4y0 h4X)).trans y0
                    have Y2 : ∀ n, (w7.drewN n).cell? ⟨(ad4.add (i * 3)).block, (ad4.add (i * 3)).off + 2, none⟩ = some (.int .i64 z.2.1) := fun n => (hO8.cell (p := ⟨(ad4.add (i * 3)).block, (ad4.add (i * 3)).off + 2, none⟩) (Nat.lt_of_lt_of_le s4y2 h4X)).trans y2
                    have v1 : ∀ n, (convert 29 9 (.slice Ad z.1.length cdd)).run Tryd.prog (w7.drewN n) = .ok (.string (strOfNums z.1)) (w7.drewN n) := fun n =>
                      conv_data (hda.moved (w' := w7.drewN n) (vb' := nilV) (fun k _ hk _ _ => b47.block k hk) (.inl rfl))
                    have v2 : ∀ n, (convert 29 9 (.slice Ad2 z.1.length cd2)).run Tryd.prog (w7.drewN n) = .ok (.string (strOfNums z.1)) (w7.drewN n) := fun n => conv_rdb (w := w7.drewN n) (M := X) hR7
                    clear x0 x1 x2 hdv hO7 hO8 x1W
                    go_quiet (fail)
                    go_wp2_with fail
                    obtain rfl := Had4.out
                    go_roundg g'
                    case measure => omega
                    case rel => exact ⟨i + 1, ⟨z.2.2, z.2.1, _, true⟩, by go_num, by go_num, by go_num, by go_num, by omega, by omega, hI7, hX7, hp7, hr7, hoB7, hcd, Lib.hid hH2, pw_below_drewN bW7 _⟩
            · have heb : (err == 0) = false := by simpa using he0
              have heb2 : (err != 0) = true := by simpa using he0
              have hf : fkRead fails Nn ⟨ps, err, off, rd⟩ = (⟨ps, err, off, rd⟩, [], err) := by
                unfold fkRead
                simp [he0]
              rw [hf] at y2 hda hH2
              simp only at y2 hda hH2
              obtain ⟨Ad, cdd, edv⟩ := hda.slice
              subst edv
              clear hf
              by_cases ho : off = 0
              · subst ho
                cases rd with
                | true =>
                  go_upto_region 17 with fail
                  have Y0 : ∀ n, ((wr.alloc (.cells #[.int .i64 0, .int .i64 (Nn : Int), .int .i64 wh] 32)).drewN n).cell? (ad4.add (i * 3)) = some (.slice Ad 0 cdd) := fun n => y0
                  have Y2 : ∀ n, ((wr.alloc (.cells #[.int .i64 0, .int .i64 (Nn : Int), .int .i64 wh] 32)).drewN n).cell? ⟨(ad4.add (i * 3)).block, (ad4.add (i * 3)).off + 2, none⟩ = some (.int .i64 err) := fun n => y2
                  have v1 : ∀ n, (convert 29 9 (.slice Ad 0 cdd)).run Tryd.prog ((wr.alloc (.cells #[.int .i64 0, .int .i64 (Nn : Int), .int .i64 wh] 32)).drewN n) = .ok (.string (strOfNums ([] : List Int))) ((wr.alloc (.cells #[.int .i64 0, .int .i64 (Nn : Int), .int .i64 wh] 32)).drewN n) := fun n =>
                    conv_data (hda.moved (w' := (wr.alloc (.cells #[.int .i64 0, .int .i64 (Nn : Int), .int .i64 wh] 32)).drewN n) (vb' := nilV) (fun k _ hk _ _ => b4W.block k hk) (.inl rfl))
                  have v2 : ∀ n, (convert 29 9 (.slice none 0 0)).run Tryd.prog ((wr.alloc (.cells #[.int .i64 0, .int .i64 (Nn : Int), .int .i64 wh] 32)).drewN n) = .ok (.string (strOfNums [])) ((wr.alloc (.cells #[.int .i64 0, .int .i64 (Nn : Int), .int .i64 wh] 32)).drewN n) := fun n => conv_rdb (w := (wr.alloc (.cells #[.int .i64 0, .int .i64 (Nn : Int), .int .i64 wh] 32)).drewN n) (M := X) ⟨none, 0, rfl, Nat.le_refl _, fun j x hj => by simp at hj⟩
                  have hoB7 : (0 : Int) ≤ 0 ∧ (0 : Int) ≤ 1099511627776 * (((i + 1 : Nat) : Int) + 1) := by omega
                  clear x0 x1 x2 hdv
                  go_quiet (fail)
                  go_wp2_with fail
                  obtain rfl := Had4.out
                  go_roundg g'
                  case measure => omega
                  case rel => exact ⟨i + 1, ⟨ps, err, 0, true⟩, by go_num, by go_num, by go_num, by go_num, by omega, by omega, hIW, hXW, hp6, hl6, hoB7, hec, Lib.hid hH2, pw_below_drewN bW _⟩
                | false =>
                  go_upto_region 17 with fail
                  have Y0 : ∀ n, ((wr.alloc (.cells #[.int .i64 0, .int .i64 (Nn : Int), .int .i64 wh] 32)).drewN n).cell? (ad4.add (i * 3)) = some (.slice Ad 0 cdd) := fun n => y0
                  have Y2 : ∀ n, ((wr.alloc (.cells #[.int .i64 0, .int .i64 (Nn : Int), .int .i64 wh] 32)).drewN n).cell? ⟨(ad4.add (i * 3)).block, (ad4.add (i * 3)).off + 2, none⟩ = some (.int .i64 err) := fun n => y2
                  have v1 : ∀ n, (convert 29 9 (.slice Ad 0 cdd)).run Tryd.prog ((wr.alloc (.cells #[.int .i64 0, .int .i64 (Nn : Int), .int .i64 wh] 32)).drewN n) = .ok (.string (strOfNums ([] : List Int))) ((wr.alloc (.cells #[.int .i64 0, .int .i64 (Nn : Int), .int .i64 wh] 32)).drewN n) := fun n =>
                    conv_data (hda.moved (w' := (wr.alloc (.cells #[.int .i64 0, .int .i64 (Nn : Int), .int .i64 wh] 32)).drewN n) (vb' := nilV) (fun k _ hk _ _ => b4W.block k hk) (.inl rfl))
                  have v2 : ∀ n, (convert 29 9 (.slice none 0 0)).run Tryd.prog ((wr.alloc (.cells #[.int .i64 0, .int .i64 (Nn : Int), .int .i64 wh] 32)).drewN n) = .ok (.string (strOfNums [])) ((wr.alloc (.cells #[.int .i64 0, .int .i64 (Nn : Int), .int .i64 wh] 32)).drewN n) := fun n => conv_rdb (w := (wr.alloc (.cells #[.int .i64 0, .int .i64 (Nn : Int), .int .i64 wh] 32)).drewN n) (M := X) ⟨none, 0, rfl, Nat.le_refl _, fun j x hj => by simp at hj⟩
                  have hoB7 : (0 : Int) ≤ 0 ∧ (0 : Int) ≤ 1099511627776 * (((i + 1 : Nat) : Int) + 1) := by omega
                  clear x0 x1 x2 hdv
                  go_quiet (fail)
                  go_wp2_with fail
                  obtain rfl := Had4.out
                  go_roundg g'
                  case measure => omega
                  case rel => exact ⟨i + 1, ⟨ps, err, 0, false⟩, by go_num, by go_num, by go_num, by go_num, by omega, by omega, hIW, hXW, hp6, hl6, hoB7, hec, Lib.hid hH2, pw_below_drewN bW _⟩
              · have hob : (off == 0) = false := by simpa using ho
                have hob2 : (off != 0) = true := by simpa using ho
                clear hH2 y2
                go_wp2_with fail
                go_ret
                exact ⟨rfl, B5.out.trans (bW.mono (by rw [← HX.out]; exact B5.out.size))⟩
        · have hltb : decide ((i : Int) < (steps.length : Int)) = false := decide_eq_false (by omega)
          go_wp2
          go_ret
          exact ⟨rfl, B5.out.trans (hB.mono (by rw [← HX.out]; exact B5.out.size))⟩
end Go.Proofs.YtgbcmjbiddkldaaDoor.Given
