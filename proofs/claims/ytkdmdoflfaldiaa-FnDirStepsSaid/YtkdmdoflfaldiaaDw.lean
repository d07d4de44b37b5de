/- The walk of laws.FnDirSteps: it returns true, for every root, ID and list of steps. -/
import Derived.Test.YtkdmdoflfaldiaaDe
namespace Go.Proofs.Ytkdmdoflfaldiaa.Given
open Go.RowKit Go.WideMaps Go.Maps Go.Proofs.YtkdmdoflfaldiaaW.PrintWords Go.Proofs.Ytkdmdoflfaldiaa.PD Go.Proofs.Ytkdmdoflfaldiaa.Pl
set_option linter.unusedVariables false
set_option linter.unusedSimpArgs false

theorem fits_loop (l : List S34) (hl : l.length ≤ 9223372036854775807) : ∀ (m i K : Nat), i + m = l.length → m < K → ∃ b, laws_zzFits12.l0 K l l.length i = some b
  | 0, i, K, h, hK => by
    obtain ⟨K, rfl⟩ : ∃ q, K = q + 1 := ⟨K - 1, by omega⟩
    refine ⟨true, ?_⟩
    simp only [laws_zzFits12.l0]
    rw [if_neg (by omega)]
  | m + 1, i, K, h, hK => by
    obtain ⟨K, rfl⟩ : ∃ q, K = q + 1 := ⟨K - 1, by omega⟩
    have hw : wrap64 ((i : Int) + 1) = ((i + 1 : Nat) : Int) := by rw [wrap64_id (by omega) (by omega)]; omega
    obtain ⟨b, hb⟩ := fits_loop l hl m (i + 1) K (by omega) (by omega)
    simp only [laws_zzFits12.l0]
    rw [if_pos (by omega), if_pos (by omega), if_pos (by omega), hw, hb]
    unfold laws_zzFits13.f
    split
    · exact ⟨false, rfl⟩
    · split
      · exact ⟨false, rfl⟩
      · exact ⟨b, rfl⟩
theorem fits_some (l : List S34) (hl : l.length ≤ 9223372036854775807) : ∃ b, laws_zzFits12.f (l.length + 1) l = some b := by
  unfold laws_zzFits12.f
  split
  · exact ⟨_, rfl⟩
  · exact fits_loop l hl l.length 0 (l.length + 1) (by omega) (by omega)

def cells34 (x : S34) : List Value := [.int .i64 x.f0, .string x.f1, .string x.f2]
def flat34 (l : List S34) : List Value := (l.map cells34).flatten
theorem flat34_snoc (l : List S34) (x : S34) : flat34 (l ++ [x]) = flat34 l ++ cells34 x := by simp [flat34]
theorem reps34 (w : World) (base : Nat) (ok : Nat → Prop) : ∀ l : List S34, Reps (k34.M w base ok) 3 l (flat34 l)
  | [] => Reps.none _ _
  | x :: l => by
    have h := Reps.c3 (k34_mkM w base ok x) (reps34 w base ok l)
    exact h
theorem row34 {w : World} {base : Nat} {v : Value} {l : List S34} (h : w.ownsRow base 34 3 v l.length (flat34 l)) : Kd.R k34 34 w base (fun _ => True) v l := ⟨fun _ _ => trivial, flat34 l, h, reps34 _ _ _ _⟩
theorem sinfo34 : (Try.prog.info? 34).map (fun i => (i.zero, i.size, i.bytes)) = some (some (.agg #[.int .i64 0, .string ⟨#[]⟩, .string ⟨#[]⟩]), 3, 40) := by kernel_rfl

def okS (s : S34) : Prop := 0 ≤ s.f0 ∧ s.f0 ≤ 5 ∧ s.f1.size ≤ 200 ∧ s.f2.size ≤ 100
def s5 : S34 := ⟨5, ⟨#[]⟩, ⟨#[]⟩⟩
/-- The first step makes the root, whatever stood. -/
theorem run_first (id : ByteArray) (st st' : St) (l : List S34) : runD id st (s5 :: l) = runD id st' (s5 :: l) := rfl

theorem row_cells {w : World} {base e n size : Nat} {v : Value} {xs : List Value} (h : w.ownsRow base e size v n xs) (hn : 0 < n) : ∃ g c, v = .slice (some ⟨g, 0, none⟩) n c ∧ (∀ (j : Nat) (u : Value), xs[j]? = some u → w.cell? ⟨g, j, none⟩ = some u) := by
  rcases h.2 with ⟨rfl, h0⟩ | ⟨g, cap, cur, rfl, hb, hh, hc, hm, hz, ht⟩
  · omega
  · refine ⟨g, cap, rfl, fun j u hu => ?_⟩
    rw [← ht] at hu
    have hj : cur.toList[j]? = some u := by
      rw [List.getElem?_take] at hu
      split at hu
      · exact hu
      · cases hu
    exact cellH hh j u (by simpa using hj)
theorem cells_three (w : World) (x y z : Value) (t : TypeId) : ∀ j q, [x, y, z][j]? = some q → (w.alloc (.cells #[x, y, z] t)).cell? ((⟨w.heap.size, 0, none⟩ : Addr).add j) = some q := by
  intro j q hq
  have hj : j < 3 := (List.getElem?_eq_some_iff.1 hq).1
  rcases j with _ | _ | _ | j
  · simp at hq; subst hq; simp [Addr.add]
  · simp at hq; subst hq; simp [Addr.add]
  · simp at hq; subst hq; simp [Addr.add]
  · omega
set_option maxHeartbeats 4000000 in
set_option maxRecDepth 100000 in
theorem dlaw_any (root id : ByteArray) (A0 : Option Addr) (c : Nat) (l : List S34) (w : World) (hr : Kd.C k34 w A0 l.length l) (hc : l.length ≤ c) (hsz : root.size ≤ 9223372036854775807 ∧ id.size ≤ 9223372036854775807) :
    Calls Try.prog 5 #[.string root, .string id, .slice A0 l.length c] w fun e w' => e = .returned (.bool true) ∧ Below w.heap.size w w' := by
  have hl63 : l.length ≤ 9223372036854775807 := hr.2.1
  obtain ⟨b1, hb1⟩ := fits_some l hl63
  by_cases m1 : root.size > 2147483647
  · have m1b : decide (2147483647 < (root.size : Int)) = true := decide_eq_true (by omega)
    have m1c : decide (2147483647 < root.size) = true := decide_eq_true (by omega)
    go_enter Try.func5, Try.ntmps5
    go_wp2_with fail
    go_ret
    exact ⟨rfl, Below.refl _ _⟩
  have m1b : decide (2147483647 < (root.size : Int)) = false := decide_eq_false (by omega)
  have m1c : decide (2147483647 < root.size) = false := decide_eq_false (by omega)
  by_cases m2 : id.size > 2147483647
  · have m2b : decide (2147483647 < (id.size : Int)) = true := decide_eq_true (by omega)
    have m2c : decide (2147483647 < id.size) = true := decide_eq_true (by omega)
    go_enter Try.func5, Try.ntmps5
    go_wp2_with fail
    go_ret
    exact ⟨rfl, Below.refl _ _⟩
  have m2b : decide (2147483647 < (id.size : Int)) = false := decide_eq_false (by omega)
  have m2c : decide (2147483647 < id.size) = false := decide_eq_false (by omega)
  cases b1 with
  | false =>
    go_enter Try.func5, Try.ntmps5
    go_wp2_with (go_at_call 11; go_must (refine (laws_zzFits12.calls _ A0 c l _ _ hr hc hb1).mono ?_; rintro e w1 ⟨rfl, hd1⟩))
    go_ret
    exact ⟨rfl, hd1⟩
  | true =>
    have hr1 := fun (w1 : World) (hd1 : Below w.heap.size w w1) => Kd.C_below hr hd1
    by_cases m3 : l.length > 60
    · have m3b : decide (60 < (l.length : Int)) = true := decide_eq_true (by omega)
      have m3c : decide (60 < l.length) = true := decide_eq_true (by omega)
      go_enter Try.func5, Try.ntmps5
      go_wp2_with (go_at_call 11; go_must (refine (laws_zzFits12.calls _ A0 c l _ _ hr hc hb1).mono ?_; rintro e w1 ⟨rfl, hd1⟩))
      go_ret
      exact ⟨rfl, hd1⟩
    have m3b : decide (60 < (l.length : Int)) = false := decide_eq_false (by omega)
    have m3c : decide (60 < l.length) = false := decide_eq_false (by omega)
    by_cases m4 : root.size > 100
    · have m4b : decide (100 < (root.size : Int)) = true := decide_eq_true (by omega)
      have m4c : decide (100 < root.size) = true := decide_eq_true (by omega)
      go_enter Try.func5, Try.ntmps5
      go_wp2_with (go_at_call 11; go_must (refine (laws_zzFits12.calls _ A0 c l _ _ hr hc hb1).mono ?_; rintro e w1 ⟨rfl, hd1⟩))
      go_ret
      exact ⟨rfl, hd1⟩
    have m4b : decide (100 < (root.size : Int)) = false := decide_eq_false (by omega)
    have m4c : decide (100 < root.size) = false := decide_eq_false (by omega)
    by_cases m5 : id.size > 100
    · have m5b : decide (100 < (id.size : Int)) = true := decide_eq_true (by omega)
      have m5c : decide (100 < id.size) = true := decide_eq_true (by omega)
      go_enter Try.func5, Try.ntmps5
      go_wp2_with (go_at_call 11; go_must (refine (laws_zzFits12.calls _ A0 c l _ _ hr hc hb1).mono ?_; rintro e w1 ⟨rfl, hd1⟩))
      go_ret
      exact ⟨rfl, hd1⟩
    have m5b : decide (100 < (id.size : Int)) = false := decide_eq_false (by omega)
    have m5c : decide (100 < id.size) = false := decide_eq_false (by omega)
    go_enter Try.func5, Try.ntmps5
    go_wp2_with (go_at_call 11; go_must (refine (laws_zzFits12.calls _ A0 c l _ _ hr hc hb1).mono ?_; rintro e w1 ⟨rfl, hd1⟩))
    obtain ⟨W, hW⟩ : ∃ W, w1 = W := ⟨_, rfl⟩
    subst hW
    have s1 := hd1.size
    have r0 := (MapKept.heap_alloc w1 (.cells #[.string ⟨#[]⟩, .string id] 31)).1
    have r1 := (Below.heap_alloc (w1.alloc (.cells #[.string ⟨#[]⟩, .string id] 31)) (.cells #[.int .i64 5, .string ⟨#[]⟩, .string ⟨#[]⟩] 34) w1.heap.size (by simp)).trans r0
    have r2 := (MapKept.heap_alloc (w1.alloc (.cells #[.string ⟨#[]⟩, .string id] 31)) (.cells #[.int .i64 5, .string ⟨#[]⟩, .string ⟨#[]⟩] 34)).1
    have z1 : (w1.alloc (.cells #[.string ⟨#[]⟩, .string id] 31)).heap.size = w1.heap.size + 1 := by simp
    rw [z1] at r2
    have bA : Below w.heap.size w ((w1.alloc (.cells #[.string ⟨#[]⟩, .string id] 31)).alloc (.cells #[.int .i64 5, .string ⟨#[]⟩, .string ⟨#[]⟩] 34)) := (hd1.alloc s1 _).alloc (by rw [z1]; omega) _
    have oP : (((w1.alloc (.cells #[.string ⟨#[]⟩, .string id] 31)).alloc (.cells #[.int .i64 5, .string ⟨#[]⟩, .string ⟨#[]⟩] 34))).ownsRow w.heap.size 31 2 (.slice (some ⟨w1.heap.size, 0, none⟩) 1 1) 1 (flat31 [⟨⟨#[]⟩, id⟩]) :=
      ⟨by simp [flat31, cells31], .inr ⟨w1.heap.size, 1, _, rfl, s1, r1, Nat.le_refl _, by unfold maxLen; omega, by simp, by simp [flat31, cells31]⟩⟩
    have oS : (((w1.alloc (.cells #[.string ⟨#[]⟩, .string id] 31)).alloc (.cells #[.int .i64 5, .string ⟨#[]⟩, .string ⟨#[]⟩] 34))).ownsRow w.heap.size 34 3 (.slice (some ⟨w1.heap.size + 1, 0, none⟩) 1 1) 1 (flat34 [s5]) :=
      ⟨by simp [flat34, cells34], .inr ⟨w1.heap.size + 1, 1, _, rfl, by omega, r2, Nat.le_refl _, by unfold maxLen; omega, by simp, by simp [flat34, cells34, s5]⟩⟩
    clear r0 r1 r2 z1
    go_loopg [7, 8, 52] l.length (fun gf s7 s8 s52 wx => ∃ (i : Nat) (ps : List S31) (sts : List S34), s52 = .int .i64 i ∧ i ≤ l.length ∧ l.length ≤ i + gf ∧ ps.length ≤ i + 1 ∧ wx.ownsRow w.heap.size 31 2 s7 ps.length (flat31 ps) ∧ wx.ownsRow w.heap.size 34 3 s8 sts.length (flat34 sts) ∧
      Below w.heap.size w wx ∧ Hid (sts = s5 :: l.take i) ∧ Hid (∀ s ∈ l.take i, okS s))
    case atStart => exact ⟨0, [⟨⟨#[]⟩, id⟩], [s5], rfl, Nat.zero_le _, by omega, Nat.le_refl _, oP, oS, bA, Lib.hid rfl, Lib.hid (by simp)⟩
    case round =>
      clear oP oS bA m1b m1c m2b m2c m3b m3c m4b m4c m5b m5c
      obtain ⟨i, ps, sts, rfl, hi, hfu, hps, hoP, hoS, hbw, hH1, hH2⟩ := hrel
      have szr := hbw.size
      by_cases hlt : i < l.length
      · obtain ⟨g', rfl⟩ : ∃ g', gk = g' + 1 := ⟨gk - 1, by omega⟩
        have hC := Kd.C_below hr hbw
        obtain ⟨ad, hA0, x0, x1, x2⟩ := at_T34 hC (i : Int) (by omega) (by omega)
        have hsl : rd_T34 l (i : Int) = l[i] := by simp [rd_T34, hlt]
        rw [hsl] at x0 x1 x2
        have F1 : Hid (sts ++ [l[i]] = s5 :: l.take (i + 1)) := Lib.hid (by rw [hH1.out, List.take_succ_eq_append_getElem hlt]; rfl)
        have F2 : okS l[i] → Hid (∀ s ∈ l.take (i + 1), okS s) := fun h => Lib.hid (by
          intro s hs
          rw [List.take_succ_eq_append_getElem hlt] at hs
          rcases List.mem_append.1 hs with hs | hs
          · exact hH2.out s hs
          · rw [List.mem_singleton.1 hs]; exact h)
        have hlen : Hid (sts.length = i + 1) := Lib.hid (by rw [hH1.out]; simp; omega)
        obtain ⟨p, hp⟩ : ∃ p, l[i] = p := ⟨_, rfl⟩
        rw [hp] at x0 x1 x2 F1 F2
        simp only [Int.toNat_natCast] at x0 x1 x2
        subst hA0
        obtain ⟨dv, a, b⟩ := p
        simp only at x0 x1 x2
        clear hH1 hH2 hsl hp hC
        have b1 : Below wr.heap.size wr (wr.alloc (.cells #[.int .i64 dv, .string a, .string b] 34)) := (Below.refl _ _).alloc (Nat.le_refl _) _
        have q0 := (MapKept.heap_alloc wr (.cells #[.int .i64 dv, .string a, .string b] 34)).1
        have y0 := cellH q0 0 (.int .i64 dv) rfl
        have y1 := cellH q0 1 (.string a) rfl
        have y2 := cellH q0 2 (.string b) rfl
        obtain ⟨A7, c7, e7⟩ := own_slice hoP
        subst e7
        obtain ⟨A8, c8, e8⟩ := own_slice hoS
        subst e8
        by_cases n0 : dv < 0
        · have n0b : decide (dv < 0) = true := decide_eq_true n0
          go_wp2_with fail
          go_ret
          exact ⟨rfl, hbw.trans (b1.mono szr)⟩
        have n0b : decide (dv < 0) = false := decide_eq_false n0
        by_cases n1 : 5 < dv
        · have n1b : decide (5 < dv) = true := decide_eq_true n1
          go_wp2_with fail
          go_ret
          exact ⟨rfl, hbw.trans (b1.mono szr)⟩
        have n1b : decide (5 < dv) = false := decide_eq_false n1
        by_cases n2 : a.size > 200
        · have n2b : decide (200 < (a.size : Int)) = true := decide_eq_true (by omega)
          have n2c : decide (200 < a.size) = true := decide_eq_true (by omega)
          go_wp2_with fail
          go_ret
          exact ⟨rfl, hbw.trans (b1.mono szr)⟩
        have n2b : decide (200 < (a.size : Int)) = false := decide_eq_false (by omega)
        have n2c : decide (200 < a.size) = false := decide_eq_false (by omega)
        by_cases n3 : b.size > 100
        · have n3b : decide (100 < (b.size : Int)) = true := decide_eq_true (by omega)
          have n3c : decide (100 < b.size) = true := decide_eq_true (by omega)
          go_wp2_with fail
          go_ret
          exact ⟨rfl, hbw.trans (b1.mono szr)⟩
        have n3b : decide (100 < (b.size : Int)) = false := decide_eq_false (by omega)
        have n3c : decide (100 < b.size) = false := decide_eq_false (by omega)
        have F3 := F2 ⟨by simp only; omega, by simp only; omega, by simp only; omega, by simp only; omega⟩
        clear F2
        go_upto_if 78 with fail
        obtain ⟨W, hW⟩ : ∃ W, wr.alloc (.cells #[.int .i64 dv, .string a, .string b] 34) = W := ⟨_, rfl⟩
        obtain ⟨S, hS⟩ : ∃ S, wr.heap.size = S := ⟨_, rfl⟩
        have oP1 := hoP.alloc (.cells #[.int .i64 dv, .string a, .string b] 34)
        have oS1 := hoS.alloc (.cells #[.int .i64 dv, .string a, .string b] 34)
        have bW : Below w.heap.size w W := by rw [← hW]; exact hbw.trans (b1.mono szr)
        rw [hW] at b1 oP1 oS1 q0 y0 y1 y2 ⊢
        rw [hS] at q0 y0 y1 y2 ⊢
        have lS := ltH q0
        have szW := bW.size
        clear hW x0 x1 x2 hoP hoS n0b n1b n2b n2c n3b n3c
        go_cut [7] (fun v7 wx => ∃ (ps' : List S31), ps'.length ≤ i + 2 ∧ wx.ownsRow w.heap.size 31 2 v7 ps'.length (flat31 ps') ∧ wx.ownsRow w.heap.size 34 3 (.slice A8 sts.length c8) sts.length (flat34 sts) ∧ wx.heap[S]? = some (.cells #[.int .i64 dv, .string a, .string b] 34 (0, 0)) ∧ Below w.heap.size w wx)
        case first =>
          by_cases d0 : dv = 0
          · subst d0
            have e0 : ((0 : Int) == 0) = true := rfl
            go_wp2_with fail
            go_loopg [81] ps.length (fun gf s81 wx => ∃ j : Nat, s81 = .int .i64 j ∧ j ≤ ps.length ∧ ps.length ≤ j + gf ∧ Below W.heap.size W wx)
            case atStart => exact ⟨0, rfl, Nat.zero_le _, by omega, Below.refl _ _⟩
            case round =>
              obtain ⟨j, rfl, hj, hfj, hbj⟩ := hrel
              have z0 := (hbj.cell (p := ⟨S, 0, none⟩) lS).trans y0
              have z1 := (hbj.cell (p := ⟨S, 1, none⟩) lS).trans y1
              have z2 := (hbj.cell (p := ⟨S, 2, none⟩) lS).trans y2
              have szj := hbj.size
              have oP3 := own_move oP1 (fun k e => hbj.block k (own_lt oP1 k e))
              have oS3 := own_move oS1 (fun k e => hbj.block k (own_lt oS1 k e))
              have q3 := (hbj.block S lS).trans q0
              have bW3 : Below w.heap.size w wr := bW.trans (hbj.mono szW)
              by_cases hjl : j < ps.length
              · obtain ⟨k1, rfl⟩ : ∃ k1, gk = k1 + 1 := ⟨gk - 1, by omega⟩
                obtain ⟨hC3, hc3⟩ := C_of_own rfl oP3
                obtain ⟨ap, hA7, x0, x1⟩ := at_T31 hC3 (j : Int) (by omega) (by omega)
                obtain ⟨p, hp⟩ : ∃ p, rd_T31 ps (j : Int) = p := ⟨_, rfl⟩
                rw [hp] at x0 x1
                simp only [Int.toNat_natCast] at x0 x1
                subst hA7
                obtain ⟨pk, pv⟩ := p
                simp only at x0 x1
                clear hp hC3
                have b4 : Below wr.heap.size wr (wr.alloc (.cells #[.string pk, .string pv] 31)) := (Below.refl _ _).alloc (Nat.le_refl _) _
                have z0' := (b4.cell (p := ⟨S, 0, none⟩) (by show _ < _; simp only; omega)).trans z0
                have z1' := (b4.cell (p := ⟨S, 1, none⟩) (by show _ < _; simp only; omega)).trans z1
                have z2' := (b4.cell (p := ⟨S, 2, none⟩) (by show _ < _; simp only; omega)).trans z2
                have r4 := (MapKept.heap_alloc wr (.cells #[.string pk, .string pv] 31)).1
                have u0 := cellH r4 0 (.string pk) rfl
                have u1 := cellH r4 1 (.string pv) rfl
                obtain ⟨ba, hba⟩ : ∃ ba, (pk.toList == a.toList) = ba := ⟨_, rfl⟩
                obtain ⟨bb, hbb⟩ : ∃ bb, (pv.toList == b.toList) = bb := ⟨_, rfl⟩
                clear r4
                cases ba <;> cases bb
                · go_wp2_with fail
                  go_roundg k1
                  case measure => omega
                  case rel => exact ⟨j + 1, by go_num, by omega, by omega, hbj.trans (b4.mono szj)⟩
                · go_wp2_with fail
                  go_ret
                  exact ⟨rfl, bW3.trans (b4.mono (by omega))⟩
                · go_wp2_with fail
                  go_ret
                  exact ⟨rfl, bW3.trans (b4.mono (by omega))⟩
                · go_wp2_with fail
                  go_roundg k1
                  case measure => omega
                  case rel => exact ⟨j + 1, by go_num, by omega, by omega, hbj.trans (b4.mono szj)⟩
              · obtain rfl : j = ps.length := by omega
                obtain ⟨i0, hi0, iz0, iz1, iz2⟩ := info_parts sinfo31
                go_wp2_with (first
                  | (at_builtin; go_must (refine wpList_append_own _ rfl (.tmp 97) (.tmp 103) 32 rfl w.heap.size 31 i0 (.agg #[.string ⟨#[]⟩, .string ⟨#[]⟩]) 2 32 Try.underlying32 hi0 iz0 iz1 iz2 rfl (by decide) _ _ _ rfl (oP3.alloc _) ⟨wr.heap.size, 0, none⟩ 1 1 [.string a, .string b] rfl rfl (cells_two _ _ _ _) (by intro u hu; simp at hu; rcases hu with rfl | rfl <;> rfl) (by unfold maxLen; omega) (by omega) (by simp; omega) ?_; intro v8 w8 hown8 hg8 hnil8)))
                have oP4 := oP3.alloc (.cells #[.string a, .string b] 31)
                have oS4 := oS3.alloc (.cells #[.string a, .string b] 31)
                have b8 : Below w.heap.size w w8 := (bW3.alloc (by omega) _).grown hg8 (by simp; omega) (fun k e => own_base oP4 k e)
                have oS8 := own_other oS4 hg8 (own_type_ne oS4 oP4 (by decide))
                have q8 := (hg8.block S (by simp; omega) (own_ne oP4 ((Below.heap_alloc _ _ _ (by omega)).trans q3) (by decide))).trans ((Below.heap_alloc wr (.cells #[.string a, .string b] 31) S (by omega)).trans q3)
                go_wp2_with fail
                go_meet
                case rel => exact ⟨ps ++ [⟨a, b⟩], by simp; omega, by rw [flat31_snoc, List.length_append]; exact hown8, oS8, q8, b8⟩
          · have e0 : (dv == 0) = false := by simp [d0]
            go_wp2_with fail
            go_meet
            case rel => exact ⟨ps, by omega, oP1, oS1, q0, bW⟩
        case rest =>
          obtain ⟨ps', hl', oP2, oS2, q2, bW2⟩ := hcut
          clear oP1 oS1 q0 y0 y1 y2 b1 bW szW lS hbw
          have lS := ltH q2
          have y0 := cellH q2 0 (.int .i64 dv) rfl
          have y1 := cellH q2 1 (.string a) rfl
          have y2 := cellH q2 2 (.string b) rfl
          have szW := bW2.size
          have hle : sts.length ≤ 61 := by rw [hlen.out]; omega
          obtain ⟨A9, c9, e9⟩ := own_slice oP2
          subst e9
          obtain ⟨i0, hi0, iz0, iz1, iz2⟩ := info_parts sinfo34
          go_wp2_with (first
            | (at_builtin; go_must (refine wpList_append_own _ rfl (.tmp 105) (.tmp 107) 28 rfl w.heap.size 34 i0 (.agg #[.int .i64 0, .string ⟨#[]⟩, .string ⟨#[]⟩]) 3 40 Try.underlying28 hi0 iz0 iz1 iz2 rfl (by decide) _ _ _ rfl (oS2.alloc _) ⟨wc.heap.size, 0, none⟩ 1 1 [.int .i64 dv, .string a, .string b] rfl rfl (cells_three _ _ _ _ _) (by intro u hu; simp at hu; rcases hu with rfl | rfl | rfl <;> rfl) (by unfold maxLen; omega) (by omega) (by simp; omega) ?_; intro v8 w8 hown8 hg8 hnil8)))
          have oS4 := oS2.alloc (.cells #[.int .i64 dv, .string a, .string b] 34)
          have oP4 := oP2.alloc (.cells #[.int .i64 dv, .string a, .string b] 34)
          have b8 : Below w.heap.size w w8 := (bW2.alloc szW _).grown hg8 (by simp; omega) (fun k e => own_base oS4 k e)
          have oP8 := own_other oP4 hg8 (own_type_ne oP4 oS4 (by decide))
          go_roundg g'
          case measure => omega
          case rel => exact ⟨i + 1, ps', sts ++ [⟨dv, a, b⟩], by go_num, by omega, by omega, by omega, oP8, by rw [flat34_snoc, List.length_append]; exact hown8, b8, F1, F3⟩
      · obtain rfl : i = l.length := by omega
        have e1 : sts = s5 :: l := by have := hH1.out; rwa [List.take_length] at this
        have hv : ∀ s ∈ l, okS s := by have := hH2.out; rwa [List.take_length] at this
        have hlen : Hid (sts.length ≤ 61) := Lib.hid (by rw [e1]; simp; omega)
        have hz : ∀ s ∈ sts, s.f1.size ≤ 1000000 ∧ s.f2.size ≤ 1000000 ∧ 0 ≤ s.f0 ∧ s.f0 ≤ 5 := by
          intro s hs
          rw [e1] at hs
          rcases List.mem_cons.1 hs with rfl | hs
          · simp [s5, ByteArray.size]
          · obtain ⟨h1, h2, h3, h4⟩ := hv s hs
            omega
        have hrun : runD id (rootF id, rootG id) sts = runD id (emp, emp) sts := by rw [e1]; rfl
        obtain ⟨A8, c8, e8, hc8, hC8⟩ := Kd.R_reads (row34 hoS)
        subst e8
        clear e1 hv hH1 hH2 hoP hoS hps hi hfu
        have hds := dsteps_any root id A8 c8 sts wr hC8 hc8 (by have := hlen.out; omega) (by omega) hz
        rw [hrun] at hds
        obtain ⟨got, hgot⟩ : ∃ got, runD id (emp, emp) sts = got := ⟨_, rfl⟩
        have hgl : got.length = sts.length := by rw [← hgot, runD_length]
        rw [hgot] at hds
        have hgl' := Lib.hid hgl
        have hgot' := Lib.hid hgot
        clear hrun hgl hgot
        go_upto_region 23 with (first
          | (go_at_call 12; go_must (refine hds.mono ?_; rintro e w2 ⟨v2, rfl, own2, hb2⟩); obtain ⟨A2, c2, e2⟩ := own_slice own2; subst e2))
        have szr2 := hb2.size
        have bW2 : Below w.heap.size w w2 := hbw.trans (hb2.mono szr)
        obtain ⟨B, hB⟩ : ∃ B, w2.heap.size = B := ⟨_, rfl⟩
        have hC2 := Kd.C_below hC8 hb2
        clear hds hC8 hbw hb2 hr hr1
        have sB : w.heap.size ≤ B := by omega
        have own2' := Lib.hid own2
        clear own2
        have bW2' := Lib.hid bW2
        clear bW2
        have hnn : (((sts.length : Int) != (sts.length : Int))) = false := by simp
        go_wp2_with fail
        go_loopg [121] sts.length (fun gf s121 wx => ∃ (i : Nat) (v1 v2 : Value) (ls : Ls) (st : St), s121 = .int .i64 i ∧ i ≤ sts.length ∧ sts.length ≤ i + gf ∧ DirsB wx B B v1 v2 ls.1 ls.2 ∧ ls.1.length ≤ i ∧ ls.2.length ≤ i ∧ Rel st ls ∧ Below B w2 wx ∧ Hid (runD id st (sts.drop i) = got.drop i))
        case atStart =>
          have h3 := (MapKept.heap_alloc w2 (.cells #[.slice none 0 0, .slice none 0 0] 38)).1
          rw [hB] at h3
          exact ⟨0, .slice none 0 0, .slice none 0 0, ([], []), (emp, emp), rfl, Nat.zero_le _, by omega, ⟨h3, own_nil _ _ _ _, own_nil _ _ _ _⟩, Nat.le_refl _, Nat.le_refl _, ⟨fun s => rfl, fun s => rfl, by simp [Nd]⟩, (Below.refl _ _).alloc (by omega) _, Lib.hid (by simpa using hgot'.out)⟩
        case round =>
          obtain ⟨i, v1, v2, ls, st, rfl, hi, hfu, hD, hl1, hl2, hRel, hbx, hH⟩ := hrel
          have hbx' : Below w2.heap.size w2 wr := by rw [hB]; exact hbx
          by_cases hlt : i < sts.length
          · obtain ⟨g', rfl⟩ : ∃ g', gk = g' + 1 := ⟨gk - 1, by omega⟩
            have hCx := Kd.C_below hC2 hbx'
            obtain ⟨ad, hA0, x0, x1, x2⟩ := at_T34 hCx (i : Int) (by omega) (by omega)
            have hsl : rd_T34 sts (i : Int) = sts[i] := by simp [rd_T34, hlt]
            rw [hsl] at x0 x1 x2
            have hH1 := hH.out
            have hgi : i < got.length := by rw [hgl'.out]; exact hlt
            rw [List.drop_eq_getElem_cons hlt, List.drop_eq_getElem_cons hgi] at hH1
            have hzs := hz _ (List.getElem_mem hlt)
            obtain ⟨s, hs⟩ : ∃ s, sts[i] = s := ⟨_, rfl⟩
            rw [hs] at x0 x1 x2 hH1 hzs
            simp only [runD] at hH1
            injection hH1 with hx hH2
            simp only [Int.toNat_natCast] at x0 x1 x2
            subst hA0
            obtain ⟨hrs1, hrs2⟩ := rel_step hRel id s
            have hsl1 := stepS_len id s ls
            obtain ⟨dv, a, b⟩ := s
            simp only at x0 x1 x2 hzs
            have hle := hlen.out
            have hst := dirs_any _ B B v1 v2 ls ⟨dv, a, b⟩ id (hD.keep (w' := wr.alloc (.cells #[.int .i64 dv, .string a, .string b] 34)) (fun k hk => Below.heap_alloc _ _ _ hk)) (by have := hbx'.size; simp; omega) (by omega) (by omega) hzs.2.2
            obtain ⟨ls', hls'⟩ : ∃ ls', (stepS id ⟨dv, a, b⟩ ls).1 = ls' := ⟨_, rfl⟩
            obtain ⟨st', hst'⟩ : ∃ st', (stepD id st ⟨dv, a, b⟩).1 = st' := ⟨_, rfl⟩
            have hxx := hrs2.trans hx
            obtain ⟨x, hx'⟩ : ∃ x, (stepS id ⟨dv, a, b⟩ ls).2 = x := ⟨_, rfl⟩
            rw [hls', hx'] at hst
            rw [hls', hst'] at hrs1
            rw [hls'] at hsl1
            rw [hst'] at hH2
            rw [hx'] at hxx
            simp only at hst
            have F := Lib.hid hH2
            have hxx' := Lib.hid hxx
            clear hrs2 hx hls' hst' hx' hH hs hsl hxx hle
            obtain ⟨P, hP⟩ : ∃ P, wr.heap.size = P := ⟨_, rfl⟩
            have q0 := (MapKept.heap_alloc wr (.cells #[.int .i64 dv, .string a, .string b] 34)).1
            rw [hP] at q0
            have lP : P < (wr.alloc (.cells #[.int .i64 dv, .string a, .string b] 34)).heap.size := ltH q0
            have hPB : P ≠ B := by have := ltH hD.hB; omega
            have szP : B ≤ P := by have := hbx'.size; omega
            obtain ⟨A9, c9, e9, hc9, hC9⟩ := Kd.R_reads (rowA (l := got) (by rw [hgl'.out]; exact own2'.out))
            rw [hgl'.out] at e9
            cases e9
            go_upto_region 30 with (first
              | (go_at_call 13; go_must (refine hst.mono ?_; rintro e w6 ⟨rfl, v1', v2', hD6, hk6⟩);
                 have q6 := (hk6.block P lP hPB).trans q0;
                 have b6 : Below B w2 w6 := hbx.trans ⟨hk6.os, hk6.tape, hk6.output, Nat.le_trans (by simp) hk6.size, fun k hk => (hk6.block k (by simp; omega) (by omega)).trans (Below.heap_alloc _ _ _ (by omega))⟩))
            have sz6 := b6.size
            have b7 : Below B w2 (w6.alloc (.cells #[.string x.f0, .bool x.f1] 40)) := b6.alloc (by omega) _
            have q7 := (Below.heap_alloc w6 (.cells #[.string x.f0, .bool x.f1] 40) P (ltH q6)).trans q6
            have k7 := (MapKept.heap_alloc w6 (.cells #[.string x.f0, .bool x.f1] 40)).1
            have hD7 := hD6.keep (w' := w6.alloc (.cells #[.string x.f0, .bool x.f1] 40)) (fun k hk => Below.heap_alloc _ _ _ hk)
            have hC7 := Kd.C_below hC9 (by rw [hB]; exact b7)
            obtain ⟨ag, hAg, z0, z1⟩ := at_T40 hC7 (i : Int) (by omega) (by omega)
            have hgs : rd_T40 got (i : Int) = x := by rw [hxx'.out]; simp [rd_T40, hgi]
            rw [hgs] at z0 z1
            simp only [Int.toNat_natCast] at z0 z1
            subst hAg
            obtain ⟨W, hW⟩ : ∃ W, w6.alloc (.cells #[.string x.f0, .bool x.f1] 40) = W := ⟨_, rfl⟩
            obtain ⟨Q, hQ⟩ : ∃ Q, w6.heap.size = Q := ⟨_, rfl⟩
            rw [hW] at b7 q7 k7 hD7 hC7 z0 z1 ⊢
            rw [hQ] at k7 ⊢
            have y0 := cellH q7 0 (.int .i64 dv) rfl
            have y1 := cellH q7 1 (.string a) rfl
            have y2 := cellH q7 2 (.string b) rfl
            have x7 := cellH k7 0 (.string x.f0) rfl
            have x8 := cellH k7 1 (.bool x.f1) rfl
            obtain ⟨xa, xb⟩ := x
            simp only at z0 z1 x7 x8
            clear hst q0 q6 b6 hD6 hk6 hxx' hgs hW hC7 hC9 hCx x0 x1 x2 sz6 hbx hbx'
            have hsl2 : ls'.1.length ≤ i + 1 ∧ ls'.2.length ≤ i + 1 := by omega
            have h61 : i < 61 := by have := hlen.out; omega
            by_cases d1 : dv = 1
            · have d1b : (dv == 1) = true := by simp [d1]
              go_quiet (fail)
              go_wp2_with fail
              go_roundg g'
              case measure => omega
              case rel => exact ⟨i + 1, _, _, ls', st', by go_num, by omega, by omega, hD7.keep (fun k hk => rfl), hsl2.1, hsl2.2, hrs1, pw_below_drewN b7 _, F⟩
            · have d1b : (dv == 1) = false := by simp [d1]
              by_cases d2 : dv = 2
              · have d2b : (dv == 2) = true := by simp [d2]
                go_quiet (fail)
                go_wp2_with fail
                go_roundg g'
                case measure => omega
                case rel => exact ⟨i + 1, _, _, ls', st', by go_num, by omega, by omega, hD7.keep (fun k hk => rfl), hsl2.1, hsl2.2, hrs1, pw_below_drewN b7 _, F⟩
              · have d2b : (dv == 2) = false := by simp [d2]
                go_quiet (fail)
                go_wp2_with fail
                go_roundg g'
                case measure => omega
                case rel => exact ⟨i + 1, _, _, ls', st', by go_num, by omega, by omega, hD7.keep (fun k hk => rfl), hsl2.1, hsl2.2, hrs1, pw_below_drewN b7 _, F⟩
          · clear hD hl1 hl2 hRel hH hz hfu
            have hlt' : ¬ ((i : Int) < (sts.length : Int)) := by omega
            have szx := hbx'.size
            have q0 := (MapKept.heap_alloc wr (.cells #[.int .i64 0, .string ⟨#[97]⟩, .string ⟨#[98]⟩, .int .i64 1, .string ⟨#[97]⟩, .string ⟨#[]⟩] 34)).1
            have o4 : (wr.alloc (.cells #[.int .i64 0, .string ⟨#[97]⟩, .string ⟨#[98]⟩, .int .i64 1, .string ⟨#[97]⟩, .string ⟨#[]⟩] 34)).ownsRow wr.heap.size 34 3 (.slice (some ⟨wr.heap.size, 0, none⟩) 2 2) 2 (flat34 [⟨0, ⟨#[97]⟩, ⟨#[98]⟩⟩, ⟨1, ⟨#[97]⟩, ⟨#[]⟩⟩]) :=
              ⟨by simp [flat34, cells34], .inr ⟨wr.heap.size, 2, _, rfl, Nat.le_refl _, q0, Nat.le_refl _, by unfold maxLen; omega, by simp, by simp [flat34, cells34]⟩⟩
            obtain ⟨A4, c4, e4, hc4, hC4⟩ := Kd.R_reads (row34 o4)
            cases e4
            have hds := dsteps_any ⟨#[]⟩ ⟨#[114]⟩ _ _ [⟨0, ⟨#[97]⟩, ⟨#[98]⟩⟩, ⟨1, ⟨#[97]⟩, ⟨#[]⟩⟩] _ hC4 hc4 (by simp) (by decide) (by
              intro s hs
              simp at hs
              rcases hs with rfl | rfl
              · exact ⟨by decide, by decide, by decide, by decide⟩
              · exact ⟨by decide, by decide, by decide, by decide⟩)
            have hone : runD ⟨#[114]⟩ (rootF ⟨#[114]⟩, rootG ⟨#[114]⟩) [⟨0, ⟨#[97]⟩, ⟨#[98]⟩⟩, ⟨1, ⟨#[97]⟩, ⟨#[]⟩⟩] = [⟨⟨#[]⟩, false⟩, ⟨⟨#[98]⟩, true⟩] := by simp [runD, stepD, upd, ansD]
            rw [hone] at hds
            have bw : Below w.heap.size w (wr.alloc (.cells #[.int .i64 0, .string ⟨#[97]⟩, .string ⟨#[98]⟩, .int .i64 1, .string ⟨#[97]⟩, .string ⟨#[]⟩] 34)) := (bW2'.out.trans (hbx.mono sB)).alloc (by omega) _
            clear hone o4 q0 hC4 hc4
            go_wp2_with (first
              | (go_at_call 12; go_must (refine hds.mono ?_; rintro e w9 ⟨v9, rfl, own9, hb9⟩);
                 have own9' : w9.ownsRow (wr.alloc (.cells #[.int .i64 0, .string ⟨#[97]⟩, .string ⟨#[98]⟩, .int .i64 1, .string ⟨#[97]⟩, .string ⟨#[]⟩] 34)).heap.size 40 2 v9 2 [.string ⟨#[]⟩, .bool false, .string ⟨#[98]⟩, .bool true] := own9;
                 obtain ⟨g9, c9, e9, hc9⟩ := row_cells own9' (by decide);
                 subst e9;
                 have t2 := hc9 2 (.string ⟨#[98]⟩) rfl;
                 have t3 := hc9 3 (.bool true) rfl))
            go_ret
            exact ⟨rfl, bw.trans (hb9.mono bw.size)⟩
end Go.Proofs.Ytkdmdoflfaldiaa.Given
