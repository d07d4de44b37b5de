/- PaceRuns of the default calculator: its loop, call by call. -/
import Derived.Test.YtgdjplpbpknfmaaRunFacts
namespace Go.Proofs.Ytgdjplpbpknfmaa.Given
open Go.RowKit Go.Proofs.YtgdjplpbpknfmaaW.PrintWords
set_option linter.unusedVariables false
set_option linter.unusedSimpArgs false


theorem na_68 (n : Nat) (w : World) : (nilAhead 225 68 (.pointer (some ⟨n, 0, none⟩)) "Calculate").run Try.prog w = .ok (some false) w := by kernel_rfl
theorem me_68 (n : Nat) (w : World) : (method 225 68 (.pointer (some ⟨n, 0, none⟩)) "Calculate").run Try.prog w = .ok (30, .pointer (some ⟨n, 0, none⟩)) w := by kernel_rfl
def InvDf (mn mx d a : Int) (l3 : List Bool) (l4 : List Int) (sl0 : Int) (w w1 : World) (g : Nat) (m : Nat) (v i : Value) (wr : World) : Prop :=
  ∃ (k : Nat) (sl r t : Int) (xs : List Int), m + k = l3.length ∧ i = .int .i64 k ∧ Hid (xs ++ runs dfcalc (gv mn 10000000) (gv mx 2000000000) (gv d 2) (gv a 1) (l3.drop k) (l4.drop k) sl r = runs dfcalc (gv mn 10000000) (gv mx 2000000000) (gv d 2) (gv a 1) l3 l4 sl0 0) ∧
    Hid (wr.ownsRow w.heap.size 3 1 v xs.length (nums .i64 xs)) ∧ Hid (wr.heap[w1.heap.size]? = some (.cells #[.int .i64 sl, .int .i64 r, .int .i64 t, .int .i64 0] 23 (0, 0))) ∧
    Hid (Calc wr 90 g (gv mn 10000000) (gv mx 2000000000) (gv d 2) (gv a 1)) ∧ Below w.heap.size w wr ∧ w1.heap.size < wr.heap.size ∧ 0 ≤ sl ∧ sl < 1099511627776 ∧ 0 ≤ r ∧ r ≤ (k : Int) ∧ Hid (xs.length = k)
set_option maxRecDepth 100000 in
set_option maxHeartbeats 1000000 in
theorem runsDf (mn mx d a sl0 : Int) (ad3 ad4 : Addr) (c3 c4 : Nat) (l3 : List Bool) (l4 : List Int) (w : World)
    (hr3 : Kd.C Kd.bool w (some ad3) l3.length l3) (hr4 : Kd.C (Kd.int .i64) w (some ad4) l4.length l4) (hl : l3.length = l4.length) (hn : l3.length ≤ 1000) (hmn : mn ≤ 1099511627775) (hmx : mx ≤ 1099511627775) (hal : ∀ k < l4.length, rd l4 (k : Int) < 1099511627776) (hd : d ≤ 16) (ha : a ≤ 16) (hs0 : 0 ≤ sl0) (hs1 : sl0 < 1099511627776) :
    Calls Try.prog 22 #[.agg #[.int .i64 mn, .int .i64 mx, .int .i64 d, .int .i64 a], .bool false, .int .i64 sl0, .slice (some ad3) l3.length c3, .slice (some ad4) l4.length c4] w
      (Runs w (runs dfcalc (gv mn 10000000) (gv mx 2000000000) (gv d 2) (gv a 1) l3 l4 sl0 0)) := by
  have HR3 := Lib.hid hr3
  have HR4 := Lib.hid hr4
  have HL := Lib.hid hl
  clear hr3 hr4 hl
  go_enter Try.func22, Try.ntmps22
  go_wp2_with (go_at_call 29; refine (df_new mn mx d a _ hd ha).mono ?_; rintro e w1 ⟨rfl, hC, hb1⟩; have HC : Hid (Calc w1 90 (w.heap.size + 1 + 1) (gv mn 10000000) (gv mx 2000000000) (gv d 2) (gv a 1)) := Lib.hid (by simpa using hC); clear hC; obtain ⟨hcell1, hfr1⟩ := bcell hb1; have hz1 : w.heap.size < w1.heap.size := by have := hb1.size; simp at this; omega)
  have HB0 := Lib.hid hb1
  clear hb1 hcell1 hfr1
  have hg1 : w.heap.size + 1 + 1 < w1.heap.size := blk_lt HC.out
  go_loopg [13, 27] l3.length (fun m v i wr => InvDf mn mx d a l3 l4 sl0 w w1 (w.heap.size + 1 + 1) m v i wr)
  case atStart =>
    refine ⟨0, sl0, 0, 0, [], by omega, rfl, Lib.hid (by simp), Lib.hid (own_nil _ _ _ _), Lib.hid ?_, Lib.hid ?_, ?_, by simp, hs0, hs1, by omega, by omega, Lib.hid rfl⟩
    · have := heap_last w1 (.cells #[.int .i64 sl0, .int .i64 0, .int .i64 0, .int .i64 0] 23); simpa using this
    · exact HC.out.below ((Below.refl _ _).alloc (Nat.le_refl _) _)
    · exact (((Below.refl w.heap.size w).alloc (Nat.le_refl _) _).trans (HB0.out.mono (by simp))).alloc (by omega) _
  case round =>
    obtain ⟨k, sl, r, t, xs, hk, rfl, hspec, hown, hst, hcal, hbw, hwz, h0, h1, h2, h3, hxl⟩ := hrel
    by_cases hlt : k < l3.length
    · obtain ⟨ad, e3, hx3⟩ := Kd.at_bool HR3.out (k : Int) (by omega) (by omega)
      obtain ⟨ad', e4, hx4⟩ := Kd.at_int HR4.out (k : Int) (by omega) (by rw [← HL.out]; omega)
      obtain rfl := Option.some.inj e3
      obtain rfl := Option.some.inj e4
      rw [Int.toNat_natCast] at hx3 hx4
      have hy3 := (hbw.cell (World.block_lt_of_cell? _ _ hx3)).trans hx3
      have hy4 := (hbw.cell (World.block_lt_of_cell? _ _ hx4)).trans hx4
      have hk4 : k < l4.length := by rw [← HL.out]; exact hlt
      have s0 : wr.cell? ⟨w1.heap.size, 0, none⟩ = some (.int .i64 sl) := by simp [World.cell?, hst.out]
      have s1 : wr.cell? ⟨w1.heap.size, 1, none⟩ = some (.int .i64 r) := by simp [World.cell?, hst.out]
      have s2 : wr.cell? ⟨w1.heap.size, 2, none⟩ = some (.int .i64 t) := by simp [World.cell?, hst.out]
      have s3 : wr.cell? ⟨w1.heap.size, 3, none⟩ = some (.int .i64 0) := by simp [World.cell?, hst.out]
      have z1 : wr.frozen? ⟨w1.heap.size, 1, none⟩ = false := by simp [World.frozen?, hst.out]
      have z2 : wr.frozen? ⟨w1.heap.size, 2, none⟩ = false := by simp [World.frozen?, hst.out]
      have hq4 : (ad4.add k).block < w.heap.size := World.block_lt_of_cell? _ _ hx4
      clear hx3 hx4
      generalize hg : rdOf false l3 (k : Int) = g at hy3
      have HG := Lib.hid hg
      clear hg
      have hT0 := hal k hk4
      generalize ht : rd l4 (k : Int) = t4 at hy4 hT0
      have HT := Lib.hid ht
      clear ht
      have hw4 : ((wr.setCell ⟨w1.heap.size, 1, none⟩ (.int .i64 (r + 1))).setCell ⟨w1.heap.size, 2, none⟩ (.int .i64 (-1))).cell? (ad4.add k) = some (.int .i64 t4) :=
        (World.cell?_setCell_other _ _ _ _ (by intro e; rw [← e] at hq4; simp at hq4; omega)).trans ((World.cell?_setCell_other _ _ _ _ (by intro e; rw [← e] at hq4; simp at hq4; omega)).trans hy4)
      go_upto_if 37 with (fail)
      go_cut [15] (fun v15 wc => ∃ r' t' : Int, Hid (r' = if g then 0 else r + 1) ∧ Hid (t' = if g then -1 else t4) ∧ Hid (wc.heap[w1.heap.size]? = some (.cells #[.int .i64 sl, .int .i64 r', .int .i64 t', .int .i64 0] 23 (0, 0))) ∧
        Hid (wc.ownsRow w.heap.size 3 1 u13 xs.length (nums .i64 xs)) ∧ Hid (Calc wc 90 (w.heap.size + 1 + 1) (gv mn 10000000) (gv mx 2000000000) (gv d 2) (gv a 1)) ∧ Below w.heap.size w wc ∧ w1.heap.size < wc.heap.size)
      case first =>
        cases g with
        | true =>
          go_wp2_with fail
          go_simp
          go_meet
          exact ⟨0, -1, Lib.hid rfl, Lib.hid rfl, Lib.hid (blk_set3 hst.out 1 2 1 _ _ _), Lib.hid (own_set3 hown.out hst.out (by decide) 1 2 1 _ _ _), Lib.hid (Calc.far3 hcal.out hg1 1 2 1 _ _ _), below_set3 hbw hz1 1 2 1 _ _ _, by simpa only [World.size_setCell] using hwz⟩
        | false =>
          go_wp2_with fail
          go_simp
          go_meet
          exact ⟨r + 1, t4, Lib.hid rfl, Lib.hid rfl, Lib.hid (blk_set3 hst.out 1 2 2 _ _ _), Lib.hid (own_set3 hown.out hst.out (by decide) 1 2 2 _ _ _), Lib.hid (Calc.far3 hcal.out hg1 1 2 2 _ _ _), below_set3 hbw hz1 1 2 2 _ _ _, by simpa only [World.size_setCell] using hwz⟩
      case rest =>
        obtain ⟨r', t', hr', ht', hst', hown', hcal', hbw', hwz'⟩ := hcut
        have y0 : wc.cell? ⟨w1.heap.size, 0, none⟩ = some (.int .i64 sl) := by simp [World.cell?, hst'.out]
        have y1 : wc.cell? ⟨w1.heap.size, 1, none⟩ = some (.int .i64 r') := by simp [World.cell?, hst'.out]
        have y2 : wc.cell? ⟨w1.heap.size, 2, none⟩ = some (.int .i64 t') := by simp [World.cell?, hst'.out]
        have y3 : wc.cell? ⟨w1.heap.size, 3, none⟩ = some (.int .i64 0) := by simp [World.cell?, hst'.out]
        go_wp2_with fail
        have hr'0 : 0 ≤ r' ∧ r' ≤ (k : Int) + 1 := by rw [hr'.out]; split <;> constructor <;> omega
        have hT : Hid (t' < 1099511627776) := Lib.hid (by rw [ht'.out]; split <;> first | exact hT0 | decide)
        have hna := na_68 (w.heap.size + 1 + 1)
        have hme := me_68 (w.heap.size + 1 + 1)
        have HB' := Lib.hid hbw'
        clear hbw'
        have zz : ∀ u, wc.frozen? ⟨w1.heap.size, 0, none⟩ = u → u = false := by rintro u rfl; simp [World.frozen?, hst'.out]
        have z0 := zz _ rfl
        go_cut [15] (fun v15 wd => ∃ sl2 : Int, Hid (sl2 = (stp dfcalc (gv mn 10000000) (gv mx 2000000000) (gv d 2) (gv a 1) sl r g t4).1) ∧ 0 ≤ sl2 ∧ sl2 < 1099511627776 ∧ Hid (wd.heap[w1.heap.size]? = some (.cells #[.int .i64 sl2, .int .i64 r', .int .i64 t', .int .i64 0] 23 (0, 0))) ∧
          Hid (wd.ownsRow w.heap.size 3 1 u13 xs.length (nums .i64 xs)) ∧ Hid (Calc wd 90 (w.heap.size + 1 + 1) (gv mn 10000000) (gv mx 2000000000) (gv d 2) (gv a 1)) ∧ Hid (Below w.heap.size w wd) ∧ w1.heap.size < wd.heap.size)
        case first =>
          go_region_with (first | (go_at_call 17; refine (pst sl r' t' 0 _ (by decide) (by decide)).mono ?_; rintro e w2 ⟨v, rfl, hv, hb2⟩; have HV := Lib.hid hv; have HC2 := Lib.hid (Calc.below (w := wc.drew) hcal'.out hb2); clear hv) | (go_at_call 30; refine (df_any _ _ _ _ _ sl r' t' 0 v _ HC2.out HV.out (gv_lo (by decide)) (gv_hi hd (by decide)) (gv_lo (by decide)) (gv_hi ha (by decide)) hr'0.1 h0 h1).mono ?_; rintro e w3 ⟨rfl, hb3⟩; have HS3 := Lib.hid (st_below (st_below (w := wc.drew) hst'.out hb2) hb3); obtain ⟨q0, q1⟩ := st_facts HS3.out))
          all_goals
            go_wp2
            go_simp
            go_meet
            exact fin (by decide) (stp_eq dfcalc (gv mn 10000000) (gv mx 2000000000) (gv d 2) (gv a 1) sl r g t4 hr'.out ht'.out) (bndDf (gv_lo (by decide)) (gv_hi hmn (by decide)) (gv_lo (by decide)) (gv_hi hmx (by decide)) (gv_lo (by decide)) (gv_hi hd (by decide)) (gv_lo (by decide)) (gv_hi ha (by decide)) h0 h1 hr'0.1 hT.out) hst'.out hown'.out hcal'.out HB'.out (undrew hb2) hb3 hz1 hwz' hg1
        case rest =>
          obtain ⟨sl2, hsl2, hs20, hs21, hst2, hown2, hcal2, hbw2, hwz2⟩ := hcut
          obtain ⟨x0, x1⟩ := st_facts hst2.out
          go_wp2_with (at_builtin; refine print_append_num (w0 := w) w.heap.size rfl (.tmp 56) (.tmp 59) 34 3 .i64 8 rfl Try.underlying34 (by rfl) (by decide) _ xs sl2 rfl rfl hown2.out hbw2.out (by omega) (by have := hxl.out; omega) ?_; intro v3 w3 hown3 hbw3 hg3 hat3; have HO3 := Lib.hid hown3; have HB3 := Lib.hid hbw3; have HG3 := Lib.hid hg3; clear hown3 hbw3 hg3 hat3)
          have hs3 := HG3.out.size
          go_roundg (gk - 1)
          case measure => omega
          case rel =>
            refine ⟨k + 1, sl2, r', t', xs ++ [sl2], by omega, by simp, Lib.hid ?_, HO3, Lib.hid ?_, Lib.hid ?_, HB3.out, by omega, hs20, hs21, hr'0.1, by have := hr'0.2; omega, Lib.hid (by simp [hxl.out])⟩
            · rw [hsl2.out, hr'.out, ← hspec.out, ← HG.out, ← HT.out]
              exact runs_step dfcalc _ _ _ _ xs l3 l4 k hlt hk4 sl r
            · rw [HG3.out.block _ (blk_lt hst2.out) (own_ne hown2.out hst2.out (by decide))]; exact hst2.out
            · have hcc := hcal2.out
              unfold Calc at hcc ⊢
              rw [HG3.out.block _ (blk_lt hcc) (own_ne hown2.out hcc (by decide))]; exact hcc
    · obtain rfl : k = l3.length := by omega
      go_wp2_with fail
      go_ret
      have hsp : xs = runs dfcalc (gv mn 10000000) (gv mx 2000000000) (gv d 2) (gv a 1) l3 l4 sl0 0 := by
        have h := hspec.out
        rw [List.drop_length] at h
        simpa [runs] using h
      exact ⟨_, rfl, by rw [← hsp]; exact hown.out, hbw⟩
set_option maxRecDepth 100000 in
set_option maxHeartbeats 1000000 in
theorem runsDf0 (mn mx d a sl0 : Int) (A3 A4 : Option Addr) (c3 c4 : Nat) (l3 : List Bool) (l4 : List Int) (w : World)
    (hr3 : Kd.C Kd.bool w A3 l3.length l3) (hr4 : Kd.C (Kd.int .i64) w A4 l4.length l4) (hl : l3.length = l4.length) (hn : l3.length ≤ 0) (hmn : mn ≤ 1099511627775) (hmx : mx ≤ 1099511627775) (hal : ∀ k < l4.length, rd l4 (k : Int) < 1099511627776) (hd : d ≤ 16) (ha : a ≤ 16) (hs0 : 0 ≤ sl0) (hs1 : sl0 < 1099511627776) :
    Calls Try.prog 22 #[.agg #[.int .i64 mn, .int .i64 mx, .int .i64 d, .int .i64 a], .bool false, .int .i64 sl0, .slice A3 l3.length c3, .slice A4 l4.length c4] w
      (Runs w (runs dfcalc (gv mn 10000000) (gv mx 2000000000) (gv d 2) (gv a 1) l3 l4 sl0 0)) := by
  have HR3 := Lib.hid hr3
  have HR4 := Lib.hid hr4
  have HL := Lib.hid hl
  clear hr3 hr4 hl
  go_enter Try.func22, Try.ntmps22
  go_wp2_with (go_at_call 29; refine (df_new mn mx d a _ hd ha).mono ?_; rintro e w1 ⟨rfl, hC, hb1⟩; have HC : Hid (Calc w1 90 (w.heap.size + 1 + 1) (gv mn 10000000) (gv mx 2000000000) (gv d 2) (gv a 1)) := Lib.hid (by simpa using hC); clear hC; obtain ⟨hcell1, hfr1⟩ := bcell hb1; have hz1 : w.heap.size < w1.heap.size := by have := hb1.size; simp at this; omega)
  have HB0 := Lib.hid hb1
  clear hb1 hcell1 hfr1
  have hg1 : w.heap.size + 1 + 1 < w1.heap.size := blk_lt HC.out
  go_loopg [13, 27] l3.length (fun m v i wr => InvDf mn mx d a l3 l4 sl0 w w1 (w.heap.size + 1 + 1) m v i wr)
  case atStart =>
    refine ⟨0, sl0, 0, 0, [], by omega, rfl, Lib.hid (by simp), Lib.hid (own_nil _ _ _ _), Lib.hid ?_, Lib.hid ?_, ?_, by simp, hs0, hs1, by omega, by omega, Lib.hid rfl⟩
    · have := heap_last w1 (.cells #[.int .i64 sl0, .int .i64 0, .int .i64 0, .int .i64 0] 23); simpa using this
    · exact HC.out.below ((Below.refl _ _).alloc (Nat.le_refl _) _)
    · exact (((Below.refl w.heap.size w).alloc (Nat.le_refl _) _).trans (HB0.out.mono (by simp))).alloc (by omega) _
  case round =>
    obtain ⟨k, sl, r, t, xs, hk, rfl, hspec, hown, hst, hcal, hbw, hwz, h0, h1, h2, h3, hxl⟩ := hrel
    by_cases hlt : k < l3.length
    · omega
    · obtain rfl : k = l3.length := by omega
      go_wp2_with fail
      go_ret
      have hsp : xs = runs dfcalc (gv mn 10000000) (gv mx 2000000000) (gv d 2) (gv a 1) l3 l4 sl0 0 := by
        have h := hspec.out
        rw [List.drop_length] at h
        simpa [runs] using h
      exact ⟨_, rfl, by rw [← hsp]; exact hown.out, hbw⟩

end Go.Proofs.Ytgdjplpbpknfmaa.Given
