/- The walk of laws.FnReadFill: it returns true, for all parts, where io.EOF holds an error. -/
import Derived.Test.YtgbcmjbiddkldaaDoorFp
import Derived.Test.YtgbcmjbiddkldaaDoorPRx2
namespace Go.Proofs.YtgbcmjbiddkldaaDoor.Given
open Go.RowKit Go.Proofs.YtgbcmjbiddkldaaDoorW.PrintWords Go.Proofs.YtgbcmjbiddkldaaDoorW.PrintLast Go.Proofs.YtgbcmjbiddkldaaDoorW.PrintMore Go.Proofs.YtgbcmjbiddkldaaDoor.PR Go.Proofs.YtgbcmjbiddkldaaDoor.Pl
attribute [local go_sem] max2_int min2_int max_two min_two
set_option linter.unusedVariables false
set_option linter.unusedSimpArgs false

set_option maxHeartbeats 4000000 in
set_option maxRecDepth 100000 in
theorem flaw_any (w : World) (a : Addr) (M0 : Nat) (A0 : Option Addr) (c0 : Nat) (l : List (List Int)) (fails : Bool) (n : Int) (hL : LaidE w a M0) (hC : Kd.C (Kd.slice 5 (Kd.int .u8)) w A0 l.length l) (hc : l.length ≤ c0) :
    Calls Tryd.prog 6 #[.slice A0 l.length c0, .bool fails, .int .i64 n] w fun e w' => e = .returned (.bool true) ∧ Below w.heap.size w w' := by
  obtain ⟨b1, hb1, hq1⟩ := fits_some l
  cases b1 with
  | false =>
    go_enter Tryd.func6, Tryd.ntmps6
    go_wp2_with (go_at_call 7; go_must (refine (laws_zzFits14.calls _ A0 c0 l _ _ hC hc hb1).mono ?_; rintro e w1 ⟨rfl, hd1⟩))
    go_ret
    exact ⟨rfl, hd1.below⟩
  | true =>
    obtain ⟨hl1, hl2⟩ := hq1 rfl
    have hin := in_is l hl1 hl2
    have c7 := fun (w : World) (hC : Kd.C (Kd.slice 5 (Kd.int .u8)) w A0 l.length l) => (laws_zzFits14.calls _ A0 c0 l _ w hC hc hb1).mono (fun e w' h => (⟨h.1, h.2.below⟩ : e = .returned (.bool true) ∧ Below w.heap.size w w'))
    by_cases hpi : l.length ≤ 30 ∧ l.flatten.length ≤ 4000
    · rw [decide_eq_true hpi] at hin
      have c8 := fun (w : World) (hC : Kd.C (Kd.slice 5 (Kd.int .u8)) w A0 l.length l) => (spec_PartsIn.calls _ A0 c0 l _ w hC hc hin).mono (fun e w' h => (⟨h.1, h.2.below⟩ : e = .returned (.bool true) ∧ Below w.heap.size w w'))
      by_cases n0 : n < 0
      · have n0b : decide (n < 0) = true := decide_eq_true n0
        clear hin hb1 hl1 hl2 hpi hq1
        go_enter Tryd.func6, Tryd.ntmps6
        go_wp2_with (first
          | (go_at_call 7; go_must (refine (c7 _ hC).mono ?_; rintro e w1 ⟨rfl, hd1⟩); have hC1 := Kd.C_below hC hd1)
          | (go_at_call 8; go_must (refine (c8 _ hC1).mono ?_; rintro e w2 ⟨rfl, hd2⟩)))
        go_ret
        exact ⟨rfl, hd1.trans (hd2.mono hd1.size)⟩
      have n0b : decide (n < 0) = false := decide_eq_false n0
      by_cases n1 : 5000 < n
      · have n1b : decide (5000 < n) = true := decide_eq_true n1
        clear hin hb1 hl1 hl2 hpi hq1
        go_enter Tryd.func6, Tryd.ntmps6
        go_wp2_with (first
          | (go_at_call 7; go_must (refine (c7 _ hC).mono ?_; rintro e w1 ⟨rfl, hd1⟩); have hC1 := Kd.C_below hC hd1)
          | (go_at_call 8; go_must (refine (c8 _ hC1).mono ?_; rintro e w2 ⟨rfl, hd2⟩)))
        go_ret
        exact ⟨rfl, hd1.trans (hd2.mono hd1.size)⟩
      have n1b : decide (5000 < n) = false := decide_eq_false n1
      obtain ⟨N, hN⟩ : ∃ N : Nat, n = (N : Int) := ⟨n.toNat, by omega⟩
      subst hN
      have hN5 : N ≤ 5000 := by omega
      obtain ⟨wl, hwl⟩ : ∃ wl, l.flatten = wl := ⟨_, rfl⟩
      have hwh := whole_is l hpi.1 hpi.2
      have hple := part_le (K := 100000) (Nat.le_trans hpi.2 (by omega))
      rw [hwl] at hwh
      have c12 := fun (w : World) (hC : Kd.C (Kd.slice 5 (Kd.int .u8)) w A0 l.length l) => spec_Whole.calls _ A0 c0 l _ w hC hc hwh
      have c16 := fun (w : World) (hL : LaidE w a M0) (hC : Kd.C (Kd.slice 5 (Kd.int .u8)) w A0 l.length l) => rfill_any w a M0 A0 c0 l fails N hL hC hc hpi.1 hple hN5
      obtain ⟨cd, hcd⟩ : ∃ c : Int, (if wl.length < N then (if fails then 2 else 1) else 0) = c := ⟨_, rfl⟩
      rw [hwl, hcd] at c16
      have hwl4 : wl.length ≤ 4000 := by rw [← hwl]; exact hpi.2
      have hcd' := Lib.hid hcd
      have hMle := hL.le
      obtain ⟨tk, htk⟩ : ∃ t, wl.take N = t := ⟨_, rfl⟩
      rw [htk] at c16
      have htl : tk.length = Nat.min N wl.length := by rw [← htk, List.length_take]
      have htk' := Lib.hid htk
      have htl' := Lib.hid htl
      have c11 := fun (w : World) (hL : LaidE w a M0) => awake_any w a M0 hL
      clear hin hb1 hl1 hl2 hpi hq1 hwh hple hcd htk htl hwl
      have e17 : laws_readErr.f fails = some (if fails then 2 else 1) := by cases fails <;> rfl
      obtain ⟨er, her⟩ : ∃ er : Int, (if fails then 2 else 1) = er := ⟨_, rfl⟩
      rw [her] at e17
      have c17 := fun (w : World) => (laws_readErr.calls fails _ w e17).mono (fun e w' h => (⟨h.1, h.2.below⟩ : e = .returned (.int .i64 er) ∧ Below w.heap.size w w'))
      have hmin1 : min (N : Int) (wl.length : Int) = (tk.length : Int) := by rw [htl'.out]; show min (N : Int) (wl.length : Int) = ((min N wl.length : Nat) : Int); omega
      have t0 : (0 : Int) ≤ (tk.length : Int) := by omega
      have tW : Hid (tk.length ≤ wl.length) := Lib.hid (by rw [htl'.out]; exact Nat.min_le_right _ _)
      have htg : Hid (∀ (j : Nat) (x : Int), tk[j]? = some x → wl[j]? = some x) := Lib.hid (by
        intro j x hj
        rw [← htk'.out, List.getElem?_take] at hj
        split at hj
        · exact hj
        · cases hj)
      have dataAt := fun (w3 w4 w5 : World) (Ad : Option Addr) (cdd : Nat) (hda : DataAt w4 w3.heap.size (.slice none 0 0) (.slice Ad tk.length cdd) tk) (hd5 : Below w4.heap.size w4 w5) =>
        (conv_data (hda.moved (w' := w5) (vb' := .slice none 0 0) (fun k _ hk _ _ => hd5.block k hk) (.inl rfl)) : (convert 29 9 (.slice Ad tk.length cdd)).run Tryd.prog w5 = .ok (.string (strOfNums tk)) w5)
      have rowAt := fun (w2 w3 w5 : World) (Aw : Option Addr) (cw : Nat) (hcw : wl.length ≤ cw) (hwc : ∀ (j : Nat) (x : Int), wl[j]? = some x → ∃ D, Aw = some ⟨D, 0, none⟩ ∧ w2.heap.size ≤ D ∧ w3.cell? ⟨D, j, none⟩ = some (.int .u8 x)) (hb : Below w3.heap.size w3 w5) =>
        (conv_at (w := w5) (A := Aw) (c := cw) (xs := tk) (Nat.le_trans tW.out hcw) (fun j x hj => by
          obtain ⟨D, e, _, h⟩ := hwc j x (htg.out j x hj)
          exact ⟨D, e, (hb.cell (World.block_lt_of_cell? w3 _ h)).trans h⟩) : (convert 29 9 (.slice Aw tk.length cw)).run Tryd.prog w5 = .ok (.string (strOfNums tk)) w5)
      have tW' : (tk.length : Int) ≤ (wl.length : Int) := by have := tW.out; omega
      by_cases hlt : wl.length < N
      · have hltb : decide ((wl.length : Int) < (N : Int)) = true := decide_eq_true (by omega)
        have hltc : decide (wl.length < N) = true := decide_eq_true hlt
        obtain rfl : er = cd := by rw [← hcd'.out, if_pos hlt, her]
        obtain rfl : wl = tk := by rw [← htk'.out, List.take_of_length_le (by omega)]
        clear her e17 hmin1
        go_enter Tryd.func6, Tryd.ntmps6
        go_upto_region 10 with (first
          | (go_at_call 7; go_must (refine (c7 _ hC).mono ?_; rintro e w1 ⟨rfl, hd1⟩); have hC1 := Kd.C_below hC hd1)
          | (go_at_call 8; go_must (refine (c8 _ hC1).mono ?_; rintro e w2 ⟨rfl, hd2⟩); have hC2 := Kd.C_below hC1 hd2)
          | (go_at_call 12; go_must (refine (c12 _ hC2).mono ?_; rintro e w3 ⟨v3, rfl, hR3, hd3⟩); have hC3 := Kd.C_below hC2 hd3; have b3 := (hd1.trans (hd2.mono hd1.size)).trans (hd3.mono (Nat.le_trans hd1.size hd2.size)); have hL3 : LaidE w3 a M0 := hL.below (fun k hk => b3.block k (Nat.lt_of_lt_of_le hk hMle)) b3.size; obtain ⟨Aw, cw, ew, hcw, hwc⟩ := conv_row hR3; subst ew)
          | (go_at_call 16; go_must (refine (c16 _ hL3 hC3).mono ?_; rintro e w4 ⟨dv, rfl, hda, hd4⟩); have b4 := b3.trans (hd4.mono b3.size); obtain ⟨Ad, cdd, edv⟩ := hda.slice; subst edv)
          | (go_at_call 17; go_must (refine (c17 _).mono ?_; rintro e w5 ⟨rfl, hd5⟩)))
        have b5 := b4.trans (hd5.mono b4.size)
        have hL5 : LaidE w5 a M0 := hL.below (fun k hk => b5.block k (Nat.lt_of_lt_of_le hk hMle)) b5.size
        have v1 := dataAt w3 w4 w5.drew Ad cdd hda (below_drew1 hd5)
        have v2 := rowAt w2 w3 w5.drew Aw cw hcw hwc (below_drew1 (hd4.trans (hd5.mono hd4.size)))
        have k1 : (wl.length : Int) ≤ (cw : Int) := by omega
        have B5 := Lib.hid b5
        clear hd1 hd2 hd3 hd4 hd5 b3 b4 b5 hR3 hwc hda dataAt rowAt c7 c8 c12 c16 c17
        have amap : Option.map (fun x => x.add 0) Aw = Aw := by cases Aw <;> rfl
        refine wp_region_noPanic ?_
        refine wp_region_held_drew (S := (fun _ => True)) (by kernel_rfl) ?h1 (fun hHeld => ?k1)
        case h1 => ((try dsimp only); all_goals trivial)
        refine wpAnyH_take (i := 0) (oi := { dst := some 40, op := Go.Op.move (Go.Operand.tmp 8), type := 29, pos := "readers.go:50", after := #[], guard := none }) (v := ?v2) rfl (by kernel_rfl) (by kernel_rfl) (by kernel_rfl) (fun _ _ _ h => h) (Or.inl ⟨by rfl, ?y2⟩) (by assumption) ?r2
        case y2 => (intro w hSw; (try dsimp only at hSw); first | (go_simp; done) | (go_simp; with_reducible rfl))
        try simp only [Act.put, List.setIfInBounds_toArray, List.set_cons_zero, List.set_cons_succ]
        refine wpAnyH_take (i := 2) (oi := { dst := some 42, op := Go.Op.move (Go.Operand.tmp 7), type := 29, pos := "readers.go:50", after := #[], guard := none }) (v := ?v3) rfl (by kernel_rfl) (by kernel_rfl) (by kernel_rfl) (fun _ _ _ h => h) (Or.inl ⟨by rfl, ?y3⟩) (by assumption) ?r3
        case y3 => (intro w hSw; (try dsimp only at hSw); first | (go_simp; done) | (go_simp; with_reducible rfl))
        try simp only [Act.put, List.setIfInBounds_toArray, List.set_cons_zero, List.set_cons_succ]
        refine wpAnyH_take (i := 3) (oi := { dst := some 43, op := Go.Op.move (Go.Operand.tmp 2), type := 3, pos := "readers.go:50", after := #[], guard := none }) (v := ?v4) rfl (by kernel_rfl) (by kernel_rfl) (by kernel_rfl) (fun _ _ _ h => h) (Or.inl ⟨by rfl, ?y4⟩) (by assumption) ?r4
        case y4 => (intro w hSw; (try dsimp only at hSw); first | (go_simp; done) | (go_simp; with_reducible rfl))
        try simp only [Act.put, List.setIfInBounds_toArray, List.set_cons_zero, List.set_cons_succ]
        refine wpAnyH_take (i := 4) (oi := { dst := some 44, op := Go.Op.move (Go.Operand.tmp 7), type := 29, pos := "readers.go:50", after := #[], guard := none }) (v := ?v5) rfl (by kernel_rfl) (by kernel_rfl) (by kernel_rfl) (fun _ _ _ h => h) (Or.inl ⟨by rfl, ?y5⟩) (by assumption) ?r5
        case y5 => (intro w hSw; (try dsimp only at hSw); first | (go_simp; done) | (go_simp; with_reducible rfl))
        try simp only [Act.put, List.setIfInBounds_toArray, List.set_cons_zero, List.set_cons_succ]
        refine wpAnyH_ready (rs := [1, 5]) (by kernel_rfl) (by simp) ?_
        refine AllReadyH.cons (o := { dst := some 41, op := Go.Op.convert 29 9 (Go.Operand.tmp 40), type := 9, pos := "readers.go:50", after := #[{ on := 0, ground := Go.Ground.data }], guard := none }) rfl (fun K hK => ?s6) ?m6
        case s6 =>
          go_simp
          refine hK.out _ _ ?h6 (fun hHeld => ?k6)
          case h6 => ((try dsimp only); all_goals trivial)
          clear hK K
          try simp only [Act.put, List.setIfInBounds_toArray, List.set_cons_zero, List.set_cons_succ]
          refine wpAnyH_ready (rs := [5]) (by kernel_rfl) (by simp) ?_
          refine AllReadyH.cons (o := { dst := some 45, op := Go.Op.call { callee := Go.Callee.builtin Go.Builtin.len, args := #[Go.Operand.tmp 44], argTypes := #[29] }, type := 3, pos := "readers.go:50", after := #[{ on := 4, ground := Go.Ground.data }], guard := none }) rfl (fun K hK => ?s7) ?m7
          case m7 => exact AllReadyH.nil
          go_simp
          refine hK.out _ _ ?h7 (fun hHeld => ?k7)
          case h7 => ((try dsimp only); all_goals trivial)
          clear hK K
          try simp only [Act.put, List.setIfInBounds_toArray, List.set_cons_zero, List.set_cons_succ]
          refine wpAnyH_ready (rs := [6]) (by kernel_rfl) (by simp) ?_
          refine AllReadyH.cons (o := { dst := some 46, op := Go.Op.call { callee := Go.Callee.builtin Go.Builtin.min, args := #[Go.Operand.tmp 43, Go.Operand.tmp 45], argTypes := #[3, 3] }, type := 3, pos := "readers.go:50", after := #[{ on := 3, ground := Go.Ground.data }, { on := 5, ground := Go.Ground.data }], guard := none }) rfl (fun K hK => ?s8) ?m8
          case m8 => exact AllReadyH.nil
          go_simp
          refine hK.out _ _ ?h8 (fun hHeld => ?k8)
          case h8 => ((try dsimp only); all_goals trivial)
          clear hK K
          try simp only [Act.put, List.setIfInBounds_toArray, List.set_cons_zero, List.set_cons_succ]
          refine wpAnyH_take (i := 7) (oi := { dst := some 47, op := Go.Op.slice 29 (Go.Operand.tmp 42) none (some (Go.Operand.tmp 46)) none, type := 29, pos := "readers.go:50", after := #[{ on := 2, ground := Go.Ground.data }, { on := 6, ground := Go.Ground.data }], guard := none }) (v := ?v9) rfl (by kernel_rfl) (by kernel_rfl) (by kernel_rfl) (fun _ _ _ h => h) (Or.inl ⟨by rfl, ?y9⟩) (by assumption) ?r9
          case y9 => (intro w hSw; (try dsimp only at hSw); first | (go_simp; done) | (go_simp; with_reducible rfl))
          try simp only [Act.put, List.setIfInBounds_toArray, List.set_cons_zero, List.set_cons_succ]
          refine wpAnyH_ready (rs := [8]) (by kernel_rfl) (by simp) ?_
          refine AllReadyH.cons (o := { dst := some 48, op := Go.Op.convert 29 9 (Go.Operand.tmp 47), type := 9, pos := "readers.go:50", after := #[{ on := 7, ground := Go.Ground.data }], guard := none }) rfl (fun K hK => ?s10) ?m10
          case m10 => exact AllReadyH.nil
          go_simp
          refine hK.out _ _ ?h10 (fun hHeld => ?k10)
          case h10 => ((try dsimp only); all_goals trivial)
          clear hK K
          try simp only [Act.put, List.setIfInBounds_toArray, List.set_cons_zero, List.set_cons_succ]
          refine wpAnyH_take (i := 9) (oi := { dst := some 49, op := Go.Op.binOp Go.BinOp.eql 9 (Go.Operand.tmp 41) (Go.Operand.tmp 48) 9, type := 4, pos := "readers.go:50", after := #[{ on := 1, ground := Go.Ground.data }, { on := 8, ground := Go.Ground.data }], guard := none }) (v := ?v11) rfl (by kernel_rfl) (by kernel_rfl) (by kernel_rfl) (fun _ _ _ h => h) (Or.inl ⟨by rfl, ?y11⟩) (by assumption) ?r11
          case y11 => (intro w hSw; (try dsimp only at hSw); first | (go_simp; done) | (go_simp; with_reducible rfl))
          try simp only [Act.put, List.setIfInBounds_toArray, List.set_cons_zero, List.set_cons_succ]
          refine wpAnyH_take (i := 10) (oi := { dst := some 50, op := Go.Op.move (Go.Operand.tmp 49), type := 4, pos := "readers.go:50", after := #[{ on := 9, ground := Go.Ground.data }], guard := none }) (v := ?v12) rfl (by kernel_rfl) (by kernel_rfl) (by kernel_rfl) (fun _ _ _ h => h) (Or.inl ⟨by rfl, ?y12⟩) (by assumption) ?r12
          case y12 => (intro w hSw; (try dsimp only at hSw); first | (go_simp; done) | (go_simp; with_reducible rfl))
          try simp only [Act.put, List.setIfInBounds_toArray, List.set_cons_zero, List.set_cons_succ]
          refine wpAnyH_take (i := 11) (oi := { dst := some 51, op := Go.Op.move (Go.Operand.tmp 9), type := 3, pos := "readers.go:50", after := #[{ on := 10, ground := Go.Ground.guard }], guard := some (10, true) }) (v := ?v13) rfl (by kernel_rfl) (by kernel_rfl) (by kernel_rfl) (fun _ _ _ h => h) (Or.inl ⟨by rfl, ?y13⟩) (by assumption) ?r13
          case y13 => (intro w hSw; (try dsimp only at hSw); first | (go_simp; done) | (go_simp; with_reducible rfl))
          try simp only [Act.put, List.setIfInBounds_toArray, List.set_cons_zero, List.set_cons_succ]
          refine wpAnyH_take (i := 12) (oi := { dst := some 52, op := Go.Op.move (Go.Operand.tmp 10), type := 3, pos := "readers.go:50", after := #[{ on := 10, ground := Go.Ground.guard }], guard := some (10, true) }) (v := ?v14) rfl (by kernel_rfl) (by kernel_rfl) (by kernel_rfl) (fun _ _ _ h => h) (Or.inl ⟨by rfl, ?y14⟩) (by assumption) ?r14
          case y14 => (intro w hSw; (try dsimp only at hSw); first | (go_simp; done) | (go_simp; with_reducible rfl))
          try simp only [Act.put, List.setIfInBounds_toArray, List.set_cons_zero, List.set_cons_succ]
          refine wpAnyH_take (i := 13) (oi := { dst := some 53, op := Go.Op.binOp Go.BinOp.eql 3 (Go.Operand.tmp 51) (Go.Operand.tmp 52) 3, type := 4, pos := "readers.go:50", after := #[{ on := 11, ground := Go.Ground.data }, { on := 12, ground := Go.Ground.data }, { on := 10, ground := Go.Ground.guard }], guard := some (10, true) }) (v := ?v15) rfl (by kernel_rfl) (by kernel_rfl) (by kernel_rfl) (fun _ _ _ h => h) (Or.inl ⟨by rfl, ?y15⟩) (by assumption) ?r15
          case y15 => (intro w hSw; (try dsimp only at hSw); first | (go_simp; done) | (go_simp; with_reducible rfl))
          try simp only [Act.put, List.setIfInBounds_toArray, List.set_cons_zero, List.set_cons_succ]
          refine wpAnyH_take (i := 14) (oi := { dst := some 54, op := Go.Op.pick (Go.Operand.tmp 50) (Go.Operand.tmp 53) (Go.Operand.const (Go.Value.bool false)), type := 4, pos := "readers.go:50", after := #[{ on := 10, ground := Go.Ground.data }, { on := 13, ground := Go.Ground.data }], guard := none }) (v := ?v16) rfl (by kernel_rfl) (by kernel_rfl) (by kernel_rfl) (fun _ _ _ h => h) (Or.inl ⟨by rfl, ?y16⟩) (by assumption) ?r16
          case y16 => (intro w hSw; (try dsimp only at hSw); first | (go_simp; done) | (go_simp; with_reducible rfl))
          try simp only [Act.put, List.setIfInBounds_toArray, List.set_cons_zero, List.set_cons_succ]
          refine wpAnyH_take (i := 15) (oi := { dst := some 55, op := Go.Op.move (Go.Operand.tmp 54), type := 4, pos := "readers.go:50", after := #[{ on := 14, ground := Go.Ground.data }, { on := 10, ground := Go.Ground.chain }], guard := none }) (v := ?v17) rfl (by kernel_rfl) (by kernel_rfl) (by kernel_rfl) (fun _ _ _ h => h) (Or.inl ⟨by rfl, ?y17⟩) (by assumption) ?r17
          case y17 => (intro w hSw; (try dsimp only at hSw); first | (go_simp; done) | (go_simp; with_reducible rfl))
          try simp only [Act.put, List.setIfInBounds_toArray, List.set_cons_zero, List.set_cons_succ]
          refine wpAnyH_ready (rs := [16]) (by kernel_rfl) (by simp) ?_
          refine AllReadyH.cons (o := { dst := some 56, op := Go.Op.call { callee := Go.Callee.value (Go.Operand.func 11), args := #[], argTypes := #[] }, type := 4, pos := "readers.go:50", after := #[{ on := 15, ground := Go.Ground.chain }, { on := 15, ground := Go.Ground.guard }], guard := some (15, true) }) rfl (fun K hK => ?s18) ?m18
          case m18 => exact AllReadyH.nil
          go_simp; go_at_call 11; refine (c11 w5.drew (hL5.below (fun k hk => rfl) (Nat.le_refl _))).mono ?_; rintro e w8 ⟨rfl, hd8⟩
          refine hK.out _ _ ?h18 (fun hHeld => ?k18)
          case h18 => ((try dsimp only); all_goals trivial)
          clear hK K
          try simp only [Act.put, List.setIfInBounds_toArray, List.set_cons_zero, List.set_cons_succ]
          refine wpAnyH_take (i := 17) (oi := { dst := some 57, op := Go.Op.pick (Go.Operand.tmp 55) (Go.Operand.tmp 56) (Go.Operand.const (Go.Value.bool false)), type := 4, pos := "readers.go:50", after := #[{ on := 15, ground := Go.Ground.data }, { on := 16, ground := Go.Ground.data }], guard := none }) (v := ?v19) rfl (by kernel_rfl) (by kernel_rfl) (by kernel_rfl) (fun _ _ _ h => h) (Or.inl ⟨by rfl, ?y19⟩) (by assumption) ?r19
          case y19 => (intro w hSw; (try dsimp only at hSw); first | (go_simp; done) | (go_simp; with_reducible rfl))
          try simp only [Act.put, List.setIfInBounds_toArray, List.set_cons_zero, List.set_cons_succ]
          refine wpAnyH_take (i := 18) (oi := { dst := some 6, op := Go.Op.assign (Go.Operand.tmp 57), type := 4, pos := "readers.go:50", after := #[{ on := 17, ground := Go.Ground.data }, { on := 16, ground := Go.Ground.chain }, { on := 0, ground := Go.Ground.phase }, { on := 1, ground := Go.Ground.phase }, { on := 2, ground := Go.Ground.phase }, { on := 3, ground := Go.Ground.phase }, { on := 4, ground := Go.Ground.phase }, { on := 5, ground := Go.Ground.phase }, { on := 6, ground := Go.Ground.phase }, { on := 7, ground := Go.Ground.phase }, { on := 8, ground := Go.Ground.phase }, { on := 9, ground := Go.Ground.phase }, { on := 10, ground := Go.Ground.phase }, { on := 11, ground := Go.Ground.phase }, { on := 12, ground := Go.Ground.phase }, { on := 13, ground := Go.Ground.phase }, { on := 14, ground := Go.Ground.phase }, { on := 15, ground := Go.Ground.phase }, { on := 16, ground := Go.Ground.phase }, { on := 17, ground := Go.Ground.phase }], guard := none }) (v := ?v20) rfl (by kernel_rfl) (by kernel_rfl) (by kernel_rfl) (fun _ _ _ h => h) (Or.inl ⟨by rfl, ?y20⟩) (by assumption) ?r20
          case y20 => (intro w hSw; (try dsimp only at hSw); first | (go_simp; done) | (go_simp; with_reducible rfl))
          try simp only [Act.put, List.setIfInBounds_toArray, List.set_cons_zero, List.set_cons_succ]
          refine wpAnyH_done (by kernel_rfl) ?_ _
          refine NoPanic.normal ?_
          go_wp2
          go_ret
          exact ⟨rfl, (below_drew1 B5.out).trans (hd8.mono B5.out.size)⟩
        refine AllReadyH.cons (o := { dst := some 45, op := Go.Op.call { callee := Go.Callee.builtin Go.Builtin.len, args := #[Go.Operand.tmp 44], argTypes := #[29] }, type := 3, pos := "readers.go:50", after := #[{ on := 4, ground := Go.Ground.data }], guard := none }) rfl (fun K hK => ?s21) ?m21
        case s21 =>
          go_simp
          refine hK.out _ _ ?h21 (fun hHeld => ?k21)
          case h21 => ((try dsimp only); all_goals trivial)
          clear hK K
          try simp only [Act.put, List.setIfInBounds_toArray, List.set_cons_zero, List.set_cons_succ]
          refine wpAnyH_ready (rs := [1, 6]) (by kernel_rfl) (by simp) ?_
          refine AllReadyH.cons (o := { dst := some 41, op := Go.Op.convert 29 9 (Go.Operand.tmp 40), type := 9, pos := "readers.go:50", after := #[{ on := 0, ground := Go.Ground.data }], guard := none }) rfl (fun K hK => ?s22) ?m22
          case s22 =>
            go_simp
            refine hK.out _ _ ?h22 (fun hHeld => ?k22)
            case h22 => ((try dsimp only); all_goals trivial)
            clear hK K
            try simp only [Act.put, List.setIfInBounds_toArray, List.set_cons_zero, List.set_cons_succ]
            refine wpAnyH_ready (rs := [6]) (by kernel_rfl) (by simp) ?_
            refine AllReadyH.cons (o := { dst := some 46, op := Go.Op.call { callee := Go.Callee.builtin Go.Builtin.min, args := #[Go.Operand.tmp 43, Go.Operand.tmp 45], argTypes := #[3, 3] }, type := 3, pos := "readers.go:50", after := #[{ on := 3, ground := Go.Ground.data }, { on := 5, ground := Go.Ground.data }], guard := none }) rfl (fun K hK => ?s23) ?m23
            case m23 => exact AllReadyH.nil
            go_simp
            refine hK.out _ _ ?h23 (fun hHeld => ?k23)
            case h23 => ((try dsimp only); all_goals trivial)
            clear hK K
            try simp only [Act.put, List.setIfInBounds_toArray, List.set_cons_zero, List.set_cons_succ]
            refine wpAnyH_take (i := 7) (oi := { dst := some 47, op := Go.Op.slice 29 (Go.Operand.tmp 42) none (some (Go.Operand.tmp 46)) none, type := 29, pos := "readers.go:50", after := #[{ on := 2, ground := Go.Ground.data }, { on := 6, ground := Go.Ground.data }], guard := none }) (v := ?v24) rfl (by kernel_rfl) (by kernel_rfl) (by kernel_rfl) (fun _ _ _ h => h) (Or.inl ⟨by rfl, ?y24⟩) (by assumption) ?r24
            case y24 => (intro w hSw; (try dsimp only at hSw); first | (go_simp; done) | (go_simp; with_reducible rfl))
            try simp only [Act.put, List.setIfInBounds_toArray, List.set_cons_zero, List.set_cons_succ]
            refine wpAnyH_ready (rs := [8]) (by kernel_rfl) (by simp) ?_
            refine AllReadyH.cons (o := { dst := some 48, op := Go.Op.convert 29 9 (Go.Operand.tmp 47), type := 9, pos := "readers.go:50", after := #[{ on := 7, ground := Go.Ground.data }], guard := none }) rfl (fun K hK => ?s25) ?m25
            case m25 => exact AllReadyH.nil
            go_simp
            refine hK.out _ _ ?h25 (fun hHeld => ?k25)
            case h25 => ((try dsimp only); all_goals trivial)
            clear hK K
            try simp only [Act.put, List.setIfInBounds_toArray, List.set_cons_zero, List.set_cons_succ]
            refine wpAnyH_take (i := 9) (oi := { dst := some 49, op := Go.Op.binOp Go.BinOp.eql 9 (Go.Operand.tmp 41) (Go.Operand.tmp 48) 9, type := 4, pos := "readers.go:50", after := #[{ on := 1, ground := Go.Ground.data }, { on := 8, ground := Go.Ground.data }], guard := none }) (v := ?v26) rfl (by kernel_rfl) (by kernel_rfl) (by kernel_rfl) (fun _ _ _ h => h) (Or.inl ⟨by rfl, ?y26⟩) (by assumption) ?r26
            case y26 => (intro w hSw; (try dsimp only at hSw); first | (go_simp; done) | (go_simp; with_reducible rfl))
            try simp only [Act.put, List.setIfInBounds_toArray, List.set_cons_zero, List.set_cons_succ]
            refine wpAnyH_take (i := 10) (oi := { dst := some 50, op := Go.Op.move (Go.Operand.tmp 49), type := 4, pos := "readers.go:50", after := #[{ on := 9, ground := Go.Ground.data }], guard := none }) (v := ?v27) rfl (by kernel_rfl) (by kernel_rfl) (by kernel_rfl) (fun _ _ _ h => h) (Or.inl ⟨by rfl, ?y27⟩) (by assumption) ?r27
            case y27 => (intro w hSw; (try dsimp only at hSw); first | (go_simp; done) | (go_simp; with_reducible rfl))
            try simp only [Act.put, List.setIfInBounds_toArray, List.set_cons_zero, List.set_cons_succ]
            refine wpAnyH_take (i := 11) (oi := { dst := some 51, op := Go.Op.move (Go.Operand.tmp 9), type := 3, pos := "readers.go:50", after := #[{ on := 10, ground := Go.Ground.guard }], guard := some (10, true) }) (v := ?v28) rfl (by kernel_rfl) (by kernel_rfl) (by kernel_rfl) (fun _ _ _ h => h) (Or.inl ⟨by rfl, ?y28⟩) (by assumption) ?r28
            case y28 => (intro w hSw; (try dsimp only at hSw); first | (go_simp; done) | (go_simp; with_reducible rfl))
            try simp only [Act.put, List.setIfInBounds_toArray, List.set_cons_zero, List.set_cons_succ]
            refine wpAnyH_take (i := 12) (oi := { dst := some 52, op := Go.Op.move (Go.Operand.tmp 10), type := 3, pos := "readers.go:50", after := #[{ on := 10, ground := Go.Ground.guard }], guard := some (10, true) }) (v := ?v29) rfl (by kernel_rfl) (by kernel_rfl) (by kernel_rfl) (fun _ _ _ h => h) (Or.inl ⟨by rfl, ?y29⟩) (by assumption) ?r29
            case y29 => (intro w hSw; (try dsimp only at hSw); first | (go_simp; done) | (go_simp; with_reducible rfl))
            try simp only [Act.put, List.setIfInBounds_toArray, List.set_cons_zero, List.set_cons_succ]
            refine wpAnyH_take (i := 13) (oi := { dst := some 53, op := Go.Op.binOp Go.BinOp.eql 3 (Go.Operand.tmp 51) (Go.Operand.tmp 52) 3, type := 4, pos := "readers.go:50", after := #[{ on := 11, ground := Go.Ground.data }, { on := 12, ground := Go.Ground.data }, { on := 10, ground := Go.Ground.guard }], guard := some (10, true) }) (v := ?v30) rfl (by kernel_rfl) (by kernel_rfl) (by kernel_rfl) (fun _ _ _ h => h) (Or.inl ⟨by rfl, ?y30⟩) (by assumption) ?r30
            case y30 => (intro w hSw; (try dsimp only at hSw); first | (go_simp; done) | (go_simp; with_reducible rfl))
            try simp only [Act.put, List.setIfInBounds_toArray, List.set_cons_zero, List.set_cons_succ]
            refine wpAnyH_take (i := 14) (oi := { dst := some 54, op := Go.Op.pick (Go.Operand.tmp 50) (Go.Operand.tmp 53) (Go.Operand.const (Go.Value.bool false)), type := 4, pos := "readers.go:50", after := #[{ on := 10, ground := Go.Ground.data }, { on := 13, ground := Go.Ground.data }], guard := none }) (v := ?v31) rfl (by kernel_rfl) (by kernel_rfl) (by kernel_rfl) (fun _ _ _ h => h) (Or.inl ⟨by rfl, ?y31⟩) (by assumption) ?r31
            case y31 => (intro w hSw; (try dsimp only at hSw); first | (go_simp; done) | (go_simp; with_reducible rfl))
            try simp only [Act.put, List.setIfInBounds_toArray, List.set_cons_zero, List.set_cons_succ]
            refine wpAnyH_take (i := 15) (oi := { dst := some 55, op := Go.Op.move (Go.Operand.tmp 54), type := 4, pos := "readers.go:50", after := #[{ on := 14, ground := Go.Ground.data }, { on := 10, ground := Go.Ground.chain }], guard := none }) (v := ?v32) rfl (by kernel_rfl) (by kernel_rfl) (by kernel_rfl) (fun _ _ _ h => h) (Or.inl ⟨by rfl, ?y32⟩) (by assumption) ?r32
            case y32 => (intro w hSw; (try dsimp only at hSw); first | (go_simp; done) | (go_simp; with_reducible rfl))
            try simp only [Act.put, List.setIfInBounds_toArray, List.set_cons_zero, List.set_cons_succ]
            refine wpAnyH_ready (rs := [16]) (by kernel_rfl) (by simp) ?_
            refine AllReadyH.cons (o := { dst := some 56, op := Go.Op.call { callee := Go.Callee.value (Go.Operand.func 11), args := #[], argTypes := #[] }, type := 4, pos := "readers.go:50", after := #[{ on := 15, ground := Go.Ground.chain }, { on := 15, ground := Go.Ground.guard }], guard := some (15, true) }) rfl (fun K hK => ?s33) ?m33
            case m33 => exact AllReadyH.nil
            go_simp; go_at_call 11; refine (c11 w5.drew (hL5.below (fun k hk => rfl) (Nat.le_refl _))).mono ?_; rintro e w8 ⟨rfl, hd8⟩
            refine hK.out _ _ ?h33 (fun hHeld => ?k33)
            case h33 => ((try dsimp only); all_goals trivial)
            clear hK K
            try simp only [Act.put, List.setIfInBounds_toArray, List.set_cons_zero, List.set_cons_succ]
            refine wpAnyH_take (i := 17) (oi := { dst := some 57, op := Go.Op.pick (Go.Operand.tmp 55) (Go.Operand.tmp 56) (Go.Operand.const (Go.Value.bool false)), type := 4, pos := "readers.go:50", after := #[{ on := 15, ground := Go.Ground.data }, { on := 16, ground := Go.Ground.data }], guard := none }) (v := ?v34) rfl (by kernel_rfl) (by kernel_rfl) (by kernel_rfl) (fun _ _ _ h => h) (Or.inl ⟨by rfl, ?y34⟩) (by assumption) ?r34
            case y34 => (intro w hSw; (try dsimp only at hSw); first | (go_simp; done) | (go_simp; with_reducible rfl))
            try simp only [Act.put, List.setIfInBounds_toArray, List.set_cons_zero, List.set_cons_succ]
            refine wpAnyH_take (i := 18) (oi := { dst := some 6, op := Go.Op.assign (Go.Operand.tmp 57), type := 4, pos := "readers.go:50", after := #[{ on := 17, ground := Go.Ground.data }, { on := 16, ground := Go.Ground.chain }, { on := 0, ground := Go.Ground.phase }, { on := 1, ground := Go.Ground.phase }, { on := 2, ground := Go.Ground.phase }, { on := 3, ground := Go.Ground.phase }, { on := 4, ground := Go.Ground.phase }, { on := 5, ground := Go.Ground.phase }, { on := 6, ground := Go.Ground.phase }, { on := 7, ground := Go.Ground.phase }, { on := 8, ground := Go.Ground.phase }, { on := 9, ground := Go.Ground.phase }, { on := 10, ground := Go.Ground.phase }, { on := 11, ground := Go.Ground.phase }, { on := 12, ground := Go.Ground.phase }, { on := 13, ground := Go.Ground.phase }, { on := 14, ground := Go.Ground.phase }, { on := 15, ground := Go.Ground.phase }, { on := 16, ground := Go.Ground.phase }, { on := 17, ground := Go.Ground.phase }], guard := none }) (v := ?v35) rfl (by kernel_rfl) (by kernel_rfl) (by kernel_rfl) (fun _ _ _ h => h) (Or.inl ⟨by rfl, ?y35⟩) (by assumption) ?r35
            case y35 => (intro w hSw; (try dsimp only at hSw); first | (go_simp; done) | (go_simp; with_reducible rfl))
            try simp only [Act.put, List.setIfInBounds_toArray, List.set_cons_zero, List.set_cons_succ]
            refine wpAnyH_done (by kernel_rfl) ?_ _
            refine NoPanic.normal ?_
            go_wp2
            go_ret
            exact ⟨rfl, (below_drew1 B5.out).trans (hd8.mono B5.out.size)⟩
          refine AllReadyH.cons (o := { dst := some 46, op := Go.Op.call { callee := Go.Callee.builtin Go.Builtin.min, args := #[Go.Operand.tmp 43, Go.Operand.tmp 45], argTypes := #[3, 3] }, type := 3, pos := "readers.go:50", after := #[{ on := 3, ground := Go.Ground.data }, { on := 5, ground := Go.Ground.data }], guard := none }) rfl (fun K hK => ?s36) ?m36
          case s36 =>
            go_simp
            refine hK.out _ _ ?h36 (fun hHeld => ?k36)
            case h36 => ((try dsimp only); all_goals trivial)
            clear hK K
            try simp only [Act.put, List.setIfInBounds_toArray, List.set_cons_zero, List.set_cons_succ]
            refine wpAnyH_take (i := 7) (oi := { dst := some 47, op := Go.Op.slice 29 (Go.Operand.tmp 42) none (some (Go.Operand.tmp 46)) none, type := 29, pos := "readers.go:50", after := #[{ on := 2, ground := Go.Ground.data }, { on := 6, ground := Go.Ground.data }], guard := none }) (v := ?v37) rfl (by kernel_rfl) (by kernel_rfl) (by kernel_rfl) (fun _ _ _ h => h) (Or.inl ⟨by rfl, ?y37⟩) (by assumption) ?r37
            case y37 => (intro w hSw; (try dsimp only at hSw); first | (go_simp; done) | (go_simp; with_reducible rfl))
            try simp only [Act.put, List.setIfInBounds_toArray, List.set_cons_zero, List.set_cons_succ]
            refine wpAnyH_ready (rs := [1, 8]) (by kernel_rfl) (by simp) ?_
            refine AllReadyH.cons (o := { dst := some 41, op := Go.Op.convert 29 9 (Go.Operand.tmp 40), type := 9, pos := "readers.go:50", after := #[{ on := 0, ground := Go.Ground.data }], guard := none }) rfl (fun K hK => ?s38) ?m38
            case s38 =>
              go_simp
              refine hK.out _ _ ?h38 (fun hHeld => ?k38)
              case h38 => ((try dsimp only); all_goals trivial)
              clear hK K
              try simp only [Act.put, List.setIfInBounds_toArray, List.set_cons_zero, List.set_cons_succ]
              refine wpAnyH_ready (rs := [8]) (by kernel_rfl) (by simp) ?_
              refine AllReadyH.cons (o := { dst := some 48, op := Go.Op.convert 29 9 (Go.Operand.tmp 47), type := 9, pos := "readers.go:50", after := #[{ on := 7, ground := Go.Ground.data }], guard := none }) rfl (fun K hK => ?s39) ?m39
              case m39 => exact AllReadyH.nil
              go_simp
              refine hK.out _ _ ?h39 (fun hHeld => ?k39)
              case h39 => ((try dsimp only); all_goals trivial)
              clear hK K
              try simp only [Act.put, List.setIfInBounds_toArray, List.set_cons_zero, List.set_cons_succ]
              refine wpAnyH_take (i := 9) (oi := { dst := some 49, op := Go.Op.binOp Go.BinOp.eql 9 (Go.Operand.tmp 41) (Go.Operand.tmp 48) 9, type := 4, pos := "readers.go:50", after := #[{ on := 1, ground := Go.Ground.data }, { on := 8, ground := Go.Ground.data }], guard := none }) (v := ?v40) rfl (by kernel_rfl) (by kernel_rfl) (by kernel_rfl) (fun _ _ _ h => h) (Or.inl ⟨by rfl, ?y40⟩) (by assumption) ?r40
              case y40 => (intro w hSw; (try dsimp only at hSw); first | (go_simp; done) | (go_simp; with_reducible rfl))
              try simp only [Act.put, List.setIfInBounds_toArray, List.set_cons_zero, List.set_cons_succ]
              refine wpAnyH_take (i := 10) (oi := { dst := some 50, op := Go.Op.move (Go.Operand.tmp 49), type := 4, pos := "readers.go:50", after := #[{ on := 9, ground := Go.Ground.data }], guard := none }) (v := ?v41) rfl (by kernel_rfl) (by kernel_rfl) (by kernel_rfl) (fun _ _ _ h => h) (Or.inl ⟨by rfl, ?y41⟩) (by assumption) ?r41
              case y41 => (intro w hSw; (try dsimp only at hSw); first | (go_simp; done) | (go_simp; with_reducible rfl))
              try simp only [Act.put, List.setIfInBounds_toArray, List.set_cons_zero, List.set_cons_succ]
              refine wpAnyH_take (i := 11) (oi := { dst := some 51, op := Go.Op.move (Go.Operand.tmp 9), type := 3, pos := "readers.go:50", after := #[{ on := 10, ground := Go.Ground.guard }], guard := some (10, true) }) (v := ?v42) rfl (by kernel_rfl) (by kernel_rfl) (by kernel_rfl) (fun _ _ _ h => h) (Or.inl ⟨by rfl, ?y42⟩) (by assumption) ?r42
              case y42 => (intro w hSw; (try dsimp only at hSw); first | (go_simp; done) | (go_simp; with_reducible rfl))
              try simp only [Act.put, List.setIfInBounds_toArray, List.set_cons_zero, List.set_cons_succ]
              refine wpAnyH_take (i := 12) (oi := { dst := some 52, op := Go.Op.move (Go.Operand.tmp 10), type := 3, pos := "readers.go:50", after := #[{ on := 10, ground := Go.Ground.guard }], guard := some (10, true) }) (v := ?v43) rfl (by kernel_rfl) (by kernel_rfl) (by kernel_rfl) (fun _ _ _ h => h) (Or.inl ⟨by rfl, ?y43⟩) (by assumption) ?r43
              case y43 => (intro w hSw; (try dsimp only at hSw); first | (go_simp; done) | (go_simp; with_reducible rfl))
              try simp only [Act.put, List.setIfInBounds_toArray, List.set_cons_zero, List.set_cons_succ]
              refine wpAnyH_take (i := 13) (oi := { dst := some 53, op := Go.Op.binOp Go.BinOp.eql 3 (Go.Operand.tmp 51) (Go.Operand.tmp 52) 3, type := 4, pos := "readers.go:50", after := #[{ on := 11, ground := Go.Ground.data }, { on := 12, ground := Go.Ground.data }, { on := 10, ground := Go.Ground.guard }], guard := some (10, true) }) (v := ?v44) rfl (by kernel_rfl) (by kernel_rfl) (by kernel_rfl) (fun _ _ _ h => h) (Or.inl ⟨by rfl, ?y44⟩) (by assumption) ?r44
              case y44 => (intro w hSw; (try dsimp only at hSw); first | (go_simp; done) | (go_simp; with_reducible rfl))
              try simp only [Act.put, List.setIfInBounds_toArray, List.set_cons_zero, List.set_cons_succ]
              refine wpAnyH_take (i := 14) (oi := { dst := some 54, op := Go.Op.pick (Go.Operand.tmp 50) (Go.Operand.tmp 53) (Go.Operand.const (Go.Value.bool false)), type := 4, pos := "readers.go:50", after := #[{ on := 10, ground := Go.Ground.data }, { on := 13, ground := Go.Ground.data }], guard := none }) (v := ?v45) rfl (by kernel_rfl) (by kernel_rfl) (by kernel_rfl) (fun _ _ _ h => h) (Or.inl ⟨by rfl, ?y45⟩) (by assumption) ?r45
              case y45 => (intro w hSw; (try dsimp only at hSw); first | (go_simp; done) | (go_simp; with_reducible rfl))
              try simp only [Act.put, List.setIfInBounds_toArray, List.set_cons_zero, List.set_cons_succ]
              refine wpAnyH_take (i := 15) (oi := { dst := some 55, op := Go.Op.move (Go.Operand.tmp 54), type := 4, pos := "readers.go:50", after := #[{ on := 14, ground := Go.Ground.data }, { on := 10, ground := Go.Ground.chain }], guard := none }) (v := ?v46) rfl (by kernel_rfl) (by kernel_rfl) (by kernel_rfl) (fun _ _ _ h => h) (Or.inl ⟨by rfl, ?y46⟩) (by assumption) ?r46
              case y46 => (intro w hSw; (try dsimp only at hSw); first | (go_simp; done) | (go_simp; with_reducible rfl))
              try simp only [Act.put, List.setIfInBounds_toArray, List.set_cons_zero, List.set_cons_succ]
              refine wpAnyH_ready (rs := [16]) (by kernel_rfl) (by simp) ?_
              refine AllReadyH.cons (o := { dst := some 56, op := Go.Op.call { callee := Go.Callee.value (Go.Operand.func 11), args := #[], argTypes := #[] }, type := 4, pos := "readers.go:50", after := #[{ on := 15, ground := Go.Ground.chain }, { on := 15, ground := Go.Ground.guard }], guard := some (15, true) }) rfl (fun K hK => ?s47) ?m47
              case m47 => exact AllReadyH.nil
              go_simp; go_at_call 11; refine (c11 w5.drew (hL5.below (fun k hk => rfl) (Nat.le_refl _))).mono ?_; rintro e w8 ⟨rfl, hd8⟩
              refine hK.out _ _ ?h47 (fun hHeld => ?k47)
              case h47 => ((try dsimp only); all_goals trivial)
              clear hK K
              try simp only [Act.put, List.setIfInBounds_toArray, List.set_cons_zero, List.set_cons_succ]
              refine wpAnyH_take (i := 17) (oi := { dst := some 57, op := Go.Op.pick (Go.Operand.tmp 55) (Go.Operand.tmp 56) (Go.Operand.const (Go.Value.bool false)), type := 4, pos := "readers.go:50", after := #[{ on := 15, ground := Go.Ground.data }, { on := 16, ground := Go.Ground.data }], guard := none }) (v := ?v48) rfl (by kernel_rfl) (by kernel_rfl) (by kernel_rfl) (fun _ _ _ h => h) (Or.inl ⟨by rfl, ?y48⟩) (by assumption) ?r48
              case y48 => (intro w hSw; (try dsimp only at hSw); first | (go_simp; done) | (go_simp; with_reducible rfl))
              try simp only [Act.put, List.setIfInBounds_toArray, List.set_cons_zero, List.set_cons_succ]
              refine wpAnyH_take (i := 18) (oi := { dst := some 6, op := Go.Op.assign (Go.Operand.tmp 57), type := 4, pos := "readers.go:50", after := #[{ on := 17, ground := Go.Ground.data }, { on := 16, ground := Go.Ground.chain }, { on := 0, ground := Go.Ground.phase }, { on := 1, ground := Go.Ground.phase }, { on := 2, ground := Go.Ground.phase }, { on := 3, ground := Go.Ground.phase }, { on := 4, ground := Go.Ground.phase }, { on := 5, ground := Go.Ground.phase }, { on := 6, ground := Go.Ground.phase }, { on := 7, ground := Go.Ground.phase }, { on := 8, ground := Go.Ground.phase }, { on := 9, ground := Go.Ground.phase }, { on := 10, ground := Go.Ground.phase }, { on := 11, ground := Go.Ground.phase }, { on := 12, ground := Go.Ground.phase }, { on := 13, ground := Go.Ground.phase }, { on := 14, ground := Go.Ground.phase }, { on := 15, ground := Go.Ground.phase }, { on := 16, ground := Go.Ground.phase }, { on := 17, ground := Go.Ground.phase }], guard := none }) (v := ?v49) rfl (by kernel_rfl) (by kernel_rfl) (by kernel_rfl) (fun _ _ _ h => h) (Or.inl ⟨by rfl, ?y49⟩) (by assumption) ?r49
              case y49 => (intro w hSw; (try dsimp only at hSw); first | (go_simp; done) | (go_simp; with_reducible rfl))
              try simp only [Act.put, List.setIfInBounds_toArray, List.set_cons_zero, List.set_cons_succ]
              refine wpAnyH_done (by kernel_rfl) ?_ _
              refine NoPanic.normal ?_
              go_wp2
              go_ret
              exact ⟨rfl, (below_drew1 B5.out).trans (hd8.mono B5.out.size)⟩
            refine AllReadyH.cons (o := { dst := some 48, op := Go.Op.convert 29 9 (Go.Operand.tmp 47), type := 9, pos := "readers.go:50", after := #[{ on := 7, ground := Go.Ground.data }], guard := none }) rfl (fun K hK => ?s50) ?m50
            case s50 =>
              go_simp
              refine hK.out _ _ ?h50 (fun hHeld => ?k50)
              case h50 => ((try dsimp only); all_goals trivial)
              clear hK K
              try simp only [Act.put, List.setIfInBounds_toArray, List.set_cons_zero, List.set_cons_succ]
              refine wpAnyH_ready (rs := [1]) (by kernel_rfl) (by simp) ?_
              refine AllReadyH.cons (o := { dst := some 41, op := Go.Op.convert 29 9 (Go.Operand.tmp 40), type := 9, pos := "readers.go:50", after := #[{ on := 0, ground := Go.Ground.data }], guard := none }) rfl (fun K hK => ?s51) ?m51
              case m51 => exact AllReadyH.nil
              go_simp
              refine hK.out _ _ ?h51 (fun hHeld => ?k51)
              case h51 => ((try dsimp only); all_goals trivial)
              clear hK K
              try simp only [Act.put, List.setIfInBounds_toArray, List.set_cons_zero, List.set_cons_succ]
              refine wpAnyH_take (i := 9) (oi := { dst := some 49, op := Go.Op.binOp Go.BinOp.eql 9 (Go.Operand.tmp 41) (Go.Operand.tmp 48) 9, type := 4, pos := "readers.go:50", after := #[{ on := 1, ground := Go.Ground.data }, { on := 8, ground := Go.Ground.data }], guard := none }) (v := ?v52) rfl (by kernel_rfl) (by kernel_rfl) (by kernel_rfl) (fun _ _ _ h => h) (Or.inl ⟨by rfl, ?y52⟩) (by assumption) ?r52
              case y52 => (intro w hSw; (try dsimp only at hSw); first | (go_simp; done) | (go_simp; with_reducible rfl))
              try simp only [Act.put, List.setIfInBounds_toArray, List.set_cons_zero, List.set_cons_succ]
              refine wpAnyH_take (i := 10) (oi := { dst := some 50, op := Go.Op.move (Go.Operand.tmp 49), type := 4, pos := "readers.go:50", after := #[{ on := 9, ground := Go.Ground.data }], guard := none }) (v := ?v53) rfl (by kernel_rfl) (by kernel_rfl) (by kernel_rfl) (fun _ _ _ h => h) (Or.inl ⟨by rfl, ?y53⟩) (by assumption) ?r53
              case y53 => (intro w hSw; (try dsimp only at hSw); first | (go_simp; done) | (go_simp; with_reducible rfl))
              try simp only [Act.put, List.setIfInBounds_toArray, List.set_cons_zero, List.set_cons_succ]
              refine wpAnyH_take (i := 11) (oi := { dst := some 51, op := Go.Op.move (Go.Operand.tmp 9), type := 3, pos := "readers.go:50", after := #[{ on := 10, ground := Go.Ground.guard }], guard := some (10, true) }) (v := ?v54) rfl (by kernel_rfl) (by kernel_rfl) (by kernel_rfl) (fun _ _ _ h => h) (Or.inl ⟨by rfl, ?y54⟩) (by assumption) ?r54
              case y54 => (intro w hSw; (try dsimp only at hSw); first | (go_simp; done) | (go_simp; with_reducible rfl))
              try simp only [Act.put, List.setIfInBounds_toArray, List.set_cons_zero, List.set_cons_succ]
              refine wpAnyH_take (i := 12) (oi := { dst := some 52, op := Go.Op.move (Go.Operand.tmp 10), type := 3, pos := "readers.go:50", after := #[{ on := 10, ground := Go.Ground.guard }], guard := some (10, true) }) (v := ?v55) rfl (by kernel_rfl) (by kernel_rfl) (by kernel_rfl) (fun _ _ _ h => h) (Or.inl ⟨by rfl, ?y55⟩) (by assumption) ?r55
              case y55 => (intro w hSw; (try dsimp only at hSw); first | (go_simp; done) | (go_simp; with_reducible rfl))
              try simp only [Act.put, List.setIfInBounds_toArray, List.set_cons_zero, List.set_cons_succ]
              refine wpAnyH_take (i := 13) (oi := { dst := some 53, op := Go.Op.binOp Go.BinOp.eql 3 (Go.Operand.tmp 51) (Go.Operand.tmp 52) 3, type := 4, pos := "readers.go:50", after := #[{ on := 11, ground := Go.Ground.data }, { on := 12, ground := Go.Ground.data }, { on := 10, ground := Go.Ground.guard }], guard := some (10, true) }) (v := ?v56) rfl (by kernel_rfl) (by kernel_rfl) (by kernel_rfl) (fun _ _ _ h => h) (Or.inl ⟨by rfl, ?y56⟩) (by assumption) ?r56
              case y56 => (intro w hSw; (try dsimp only at hSw); first | (go_simp; done) | (go_simp; with_reducible rfl))
              try simp only [Act.put, List.setIfInBounds_toArray, List.set_cons_zero, List.set_cons_succ]
              refine wpAnyH_take (i := 14) (oi := { dst := some 54, op := Go.Op.pick (Go.Operand.tmp 50) (Go.Operand.tmp 53) (Go.Operand.const (Go.Value.bool false)), type := 4, pos := "readers.go:50", after := #[{ on := 10, ground := Go.Ground.data }, { on := 13, ground := Go.Ground.data }], guard := none }) (v := ?v57) rfl (by kernel_rfl) (by kernel_rfl) (by kernel_rfl) (fun _ _ _ h => h) (Or.inl ⟨by rfl, ?y57⟩) (by assumption) ?r57
              case y57 => (intro w hSw; (try dsimp only at hSw); first | (go_simp; done) | (go_simp; with_reducible rfl))
              try simp only [Act.put, List.setIfInBounds_toArray, List.set_cons_zero, List.set_cons_succ]
              refine wpAnyH_take (i := 15) (oi := { dst := some 55, op := Go.Op.move (Go.Operand.tmp 54), type := 4, pos := "readers.go:50", after := #[{ on := 14, ground := Go.Ground.data }, { on := 10, ground := Go.Ground.chain }], guard := none }) (v := ?v58) rfl (by kernel_rfl) (by kernel_rfl) (by kernel_rfl) (fun _ _ _ h => h) (Or.inl ⟨by rfl, ?y58⟩) (by assumption) ?r58
              case y58 => (intro w hSw; (try dsimp only at hSw); first | (go_simp; done) | (go_simp; with_reducible rfl))
              try simp only [Act.put, List.setIfInBounds_toArray, List.set_cons_zero, List.set_cons_succ]
              refine wpAnyH_ready (rs := [16]) (by kernel_rfl) (by simp) ?_
              refine AllReadyH.cons (o := { dst := some 56, op := Go.Op.call { callee := Go.Callee.value (Go.Operand.func 11), args := #[], argTypes := #[] }, type := 4, pos := "readers.go:50", after := #[{ on := 15, ground := Go.Ground.chain }, { on := 15, ground := Go.Ground.guard }], guard := some (15, true) }) rfl (fun K hK => ?s59) ?m59
              case m59 => exact AllReadyH.nil
              go_simp; go_at_call 11; refine (c11 w5.drew (hL5.below (fun k hk => rfl) (Nat.le_refl _))).mono ?_; rintro e w8 ⟨rfl, hd8⟩
              refine hK.out _ _ ?h59 (fun hHeld => ?k59)
              case h59 => ((try dsimp only); all_goals trivial)
              clear hK K
              try simp only [Act.put, List.setIfInBounds_toArray, List.set_cons_zero, List.set_cons_succ]
              refine wpAnyH_take (i := 17) (oi := { dst := some 57, op := Go.Op.pick (Go.Operand.tmp 55) (Go.Operand.tmp 56) (Go.Operand.const (Go.Value.bool false)), type := 4, pos := "readers.go:50", after := #[{ on := 15, ground := Go.Ground.data }, { on := 16, ground := Go.Ground.data }], guard := none }) (v := ?v60) rfl (by kernel_rfl) (by kernel_rfl) (by kernel_rfl) (fun _ _ _ h => h) (Or.inl ⟨by rfl, ?y60⟩) (by assumption) ?r60
              case y60 => (intro w hSw; (try dsimp only at hSw); first | (go_simp; done) | (go_simp; with_reducible rfl))
              try simp only [Act.put, List.setIfInBounds_toArray, List.set_cons_zero, List.set_cons_succ]
              refine wpAnyH_take (i := 18) (oi := { dst := some 6, op := Go.Op.assign (Go.Operand.tmp 57), type := 4, pos := "readers.go:50", after := #[{ on := 17, ground := Go.Ground.data }, { on := 16, ground := Go.Ground.chain }, { on := 0, ground := Go.Ground.phase }, { on := 1, ground := Go.Ground.phase }, { on := 2, ground := Go.Ground.phase }, { on := 3, ground := Go.Ground.phase }, { on := 4, ground := Go.Ground.phase }, { on := 5, ground := Go.Ground.phase }, { on := 6, ground := Go.Ground.phase }, { on := 7, ground := Go.Ground.phase }, { on := 8, ground := Go.Ground.phase }, { on := 9, ground := Go.Ground.phase }, { on := 10, ground := Go.Ground.phase }, { on := 11, ground := Go.Ground.phase }, { on := 12, ground := Go.Ground.phase }, { on := 13, ground := Go.Ground.phase }, { on := 14, ground := Go.Ground.phase }, { on := 15, ground := Go.Ground.phase }, { on := 16, ground := Go.Ground.phase }, { on := 17, ground := Go.Ground.phase }], guard := none }) (v := ?v61) rfl (by kernel_rfl) (by kernel_rfl) (by kernel_rfl) (fun _ _ _ h => h) (Or.inl ⟨by rfl, ?y61⟩) (by assumption) ?r61
              case y61 => (intro w hSw; (try dsimp only at hSw); first | (go_simp; done) | (go_simp; with_reducible rfl))
              try simp only [Act.put, List.setIfInBounds_toArray, List.set_cons_zero, List.set_cons_succ]
              refine wpAnyH_done (by kernel_rfl) ?_ _
              refine NoPanic.normal ?_
              go_wp2
              go_ret
              exact ⟨rfl, (below_drew1 B5.out).trans (hd8.mono B5.out.size)⟩
            exact AllReadyH.nil
          exact AllReadyH.nil
        exact AllReadyH.nil
      · have hltb : decide ((wl.length : Int) < (N : Int)) = false := decide_eq_false (by omega)
        have hltc : decide (wl.length < N) = false := decide_eq_false hlt
        obtain rfl : (0 : Int) = cd := by rw [← hcd'.out, if_neg hlt]
        have htN : tk.length = N := by rw [htl'.out]; exact Nat.min_eq_left (by omega)
        have htN' := Lib.hid htN
        clear her e17 hmin1 t0 tW' htN
        go_enter Tryd.func6, Tryd.ntmps6
        go_upto_region 10 with (first
          | (go_at_call 7; go_must (refine (c7 _ hC).mono ?_; rintro e w1 ⟨rfl, hd1⟩); have hC1 := Kd.C_below hC hd1)
          | (go_at_call 8; go_must (refine (c8 _ hC1).mono ?_; rintro e w2 ⟨rfl, hd2⟩); have hC2 := Kd.C_below hC1 hd2)
          | (go_at_call 12; go_must (refine (c12 _ hC2).mono ?_; rintro e w3 ⟨v3, rfl, hR3, hd3⟩); have hC3 := Kd.C_below hC2 hd3; have b3 := (hd1.trans (hd2.mono hd1.size)).trans (hd3.mono (Nat.le_trans hd1.size hd2.size)); have hL3 : LaidE w3 a M0 := hL.below (fun k hk => b3.block k (Nat.lt_of_lt_of_le hk hMle)) b3.size; obtain ⟨Aw, cw, ew, hcw, hwc⟩ := conv_row hR3; subst ew)
          | (go_at_call 16; go_must (refine (c16 _ hL3 hC3).mono ?_; rintro e w4 ⟨dv, rfl, hda, hd4⟩); have b4 := b3.trans (hd4.mono b3.size); obtain ⟨Ad, cdd, edv⟩ := hda.slice; subst edv)
          )
        have b5 := b4
        have hd5 : Below w4.heap.size w4 w4 := Below.refl _ _
        have hL5 : LaidE w4 a M0 := hL.below (fun k hk => b5.block k (Nat.lt_of_lt_of_le hk hMle)) b5.size
        have v1 := dataAt w3 w4 w4.drew Ad cdd hda (below_drew1 hd5)
        have v2 := rowAt w2 w3 w4.drew Aw cw hcw hwc (below_drew1 (hd4.trans (hd5.mono hd4.size)))
        have k1 : (N : Int) ≤ (cw : Int) := by have := tW.out; have := htN'.out; omega
        have tN := htN'.out
        rw [tN] at v1 v2
        have B5 := Lib.hid b5
        clear hd1 hd2 hd3 hd4 hd5 b3 b4 b5 hR3 hwc hda dataAt rowAt c7 c8 c12 c16 c17
        have amap : Option.map (fun x => x.add 0) Aw = Aw := by cases Aw <;> rfl
        refine wp_region_noPanic ?_
        refine wp_region_held_drew (S := (fun _ => True)) (by kernel_rfl) ?h62 (fun hHeld => ?k62)
        case h62 => ((try dsimp only); all_goals trivial)
        refine wpAnyH_take (i := 0) (oi := { dst := some 40, op := Go.Op.move (Go.Operand.tmp 8), type := 29, pos := "readers.go:50", after := #[], guard := none }) (v := ?v63) rfl (by kernel_rfl) (by kernel_rfl) (by kernel_rfl) (fun _ _ _ h => h) (Or.inl ⟨by rfl, ?y63⟩) (by assumption) ?r63
        case y63 => (intro w hSw; (try dsimp only at hSw); first | (go_simp; done) | (go_simp; with_reducible rfl))
        try simp only [Act.put, List.setIfInBounds_toArray, List.set_cons_zero, List.set_cons_succ]
        refine wpAnyH_take (i := 2) (oi := { dst := some 42, op := Go.Op.move (Go.Operand.tmp 7), type := 29, pos := "readers.go:50", after := #[], guard := none }) (v := ?v64) rfl (by kernel_rfl) (by kernel_rfl) (by kernel_rfl) (fun _ _ _ h => h) (Or.inl ⟨by rfl, ?y64⟩) (by assumption) ?r64
        case y64 => (intro w hSw; (try dsimp only at hSw); first | (go_simp; done) | (go_simp; with_reducible rfl))
        try simp only [Act.put, List.setIfInBounds_toArray, List.set_cons_zero, List.set_cons_succ]
        refine wpAnyH_take (i := 3) (oi := { dst := some 43, op := Go.Op.move (Go.Operand.tmp 2), type := 3, pos := "readers.go:50", after := #[], guard := none }) (v := ?v65) rfl (by kernel_rfl) (by kernel_rfl) (by kernel_rfl) (fun _ _ _ h => h) (Or.inl ⟨by rfl, ?y65⟩) (by assumption) ?r65
        case y65 => (intro w hSw; (try dsimp only at hSw); first | (go_simp; done) | (go_simp; with_reducible rfl))
        try simp only [Act.put, List.setIfInBounds_toArray, List.set_cons_zero, List.set_cons_succ]
        refine wpAnyH_take (i := 4) (oi := { dst := some 44, op := Go.Op.move (Go.Operand.tmp 7), type := 29, pos := "readers.go:50", after := #[], guard := none }) (v := ?v66) rfl (by kernel_rfl) (by kernel_rfl) (by kernel_rfl) (fun _ _ _ h => h) (Or.inl ⟨by rfl, ?y66⟩) (by assumption) ?r66
        case y66 => (intro w hSw; (try dsimp only at hSw); first | (go_simp; done) | (go_simp; with_reducible rfl))
        try simp only [Act.put, List.setIfInBounds_toArray, List.set_cons_zero, List.set_cons_succ]
        refine wpAnyH_ready (rs := [1, 5]) (by kernel_rfl) (by simp) ?_
        refine AllReadyH.cons (o := { dst := some 41, op := Go.Op.convert 29 9 (Go.Operand.tmp 40), type := 9, pos := "readers.go:50", after := #[{ on := 0, ground := Go.Ground.data }], guard := none }) rfl (fun K hK => ?s67) ?m67
        case s67 =>
          go_simp
          refine hK.out _ _ ?h67 (fun hHeld => ?k67)
          case h67 => ((try dsimp only); all_goals trivial)
          clear hK K
          try simp only [Act.put, List.setIfInBounds_toArray, List.set_cons_zero, List.set_cons_succ]
          refine wpAnyH_ready (rs := [5]) (by kernel_rfl) (by simp) ?_
          refine AllReadyH.cons (o := { dst := some 45, op := Go.Op.call { callee := Go.Callee.builtin Go.Builtin.len, args := #[Go.Operand.tmp 44], argTypes := #[29] }, type := 3, pos := "readers.go:50", after := #[{ on := 4, ground := Go.Ground.data }], guard := none }) rfl (fun K hK => ?s68) ?m68
          case m68 => exact AllReadyH.nil
          go_simp
          refine hK.out _ _ ?h68 (fun hHeld => ?k68)
          case h68 => ((try dsimp only); all_goals trivial)
          clear hK K
          try simp only [Act.put, List.setIfInBounds_toArray, List.set_cons_zero, List.set_cons_succ]
          refine wpAnyH_ready (rs := [6]) (by kernel_rfl) (by simp) ?_
          refine AllReadyH.cons (o := { dst := some 46, op := Go.Op.call { callee := Go.Callee.builtin Go.Builtin.min, args := #[Go.Operand.tmp 43, Go.Operand.tmp 45], argTypes := #[3, 3] }, type := 3, pos := "readers.go:50", after := #[{ on := 3, ground := Go.Ground.data }, { on := 5, ground := Go.Ground.data }], guard := none }) rfl (fun K hK => ?s69) ?m69
          case m69 => exact AllReadyH.nil
          go_simp
          refine hK.out _ _ ?h69 (fun hHeld => ?k69)
          case h69 => ((try dsimp only); all_goals trivial)
          clear hK K
          try simp only [Act.put, List.setIfInBounds_toArray, List.set_cons_zero, List.set_cons_succ]
          refine wpAnyH_take (i := 7) (oi := { dst := some 47, op := Go.Op.slice 29 (Go.Operand.tmp 42) none (some (Go.Operand.tmp 46)) none, type := 29, pos := "readers.go:50", after := #[{ on := 2, ground := Go.Ground.data }, { on := 6, ground := Go.Ground.data }], guard := none }) (v := ?v70) rfl (by kernel_rfl) (by kernel_rfl) (by kernel_rfl) (fun _ _ _ h => h) (Or.inl ⟨by rfl, ?y70⟩) (by assumption) ?r70
          case y70 => (intro w hSw; (try dsimp only at hSw); first | (go_simp; done) | (go_simp; with_reducible rfl))
          try simp only [Act.put, List.setIfInBounds_toArray, List.set_cons_zero, List.set_cons_succ]
          refine wpAnyH_ready (rs := [8]) (by kernel_rfl) (by simp) ?_
          refine AllReadyH.cons (o := { dst := some 48, op := Go.Op.convert 29 9 (Go.Operand.tmp 47), type := 9, pos := "readers.go:50", after := #[{ on := 7, ground := Go.Ground.data }], guard := none }) rfl (fun K hK => ?s71) ?m71
          case m71 => exact AllReadyH.nil
          go_simp
          refine hK.out _ _ ?h71 (fun hHeld => ?k71)
          case h71 => ((try dsimp only); all_goals trivial)
          clear hK K
          try simp only [Act.put, List.setIfInBounds_toArray, List.set_cons_zero, List.set_cons_succ]
          refine wpAnyH_take (i := 9) (oi := { dst := some 49, op := Go.Op.binOp Go.BinOp.eql 9 (Go.Operand.tmp 41) (Go.Operand.tmp 48) 9, type := 4, pos := "readers.go:50", after := #[{ on := 1, ground := Go.Ground.data }, { on := 8, ground := Go.Ground.data }], guard := none }) (v := ?v72) rfl (by kernel_rfl) (by kernel_rfl) (by kernel_rfl) (fun _ _ _ h => h) (Or.inl ⟨by rfl, ?y72⟩) (by assumption) ?r72
          case y72 => (intro w hSw; (try dsimp only at hSw); first | (go_simp; done) | (go_simp; with_reducible rfl))
          try simp only [Act.put, List.setIfInBounds_toArray, List.set_cons_zero, List.set_cons_succ]
          refine wpAnyH_take (i := 10) (oi := { dst := some 50, op := Go.Op.move (Go.Operand.tmp 49), type := 4, pos := "readers.go:50", after := #[{ on := 9, ground := Go.Ground.data }], guard := none }) (v := ?v73) rfl (by kernel_rfl) (by kernel_rfl) (by kernel_rfl) (fun _ _ _ h => h) (Or.inl ⟨by rfl, ?y73⟩) (by assumption) ?r73
          case y73 => (intro w hSw; (try dsimp only at hSw); first | (go_simp; done) | (go_simp; with_reducible rfl))
          try simp only [Act.put, List.setIfInBounds_toArray, List.set_cons_zero, List.set_cons_succ]
          refine wpAnyH_take (i := 11) (oi := { dst := some 51, op := Go.Op.move (Go.Operand.tmp 9), type := 3, pos := "readers.go:50", after := #[{ on := 10, ground := Go.Ground.guard }], guard := some (10, true) }) (v := ?v74) rfl (by kernel_rfl) (by kernel_rfl) (by kernel_rfl) (fun _ _ _ h => h) (Or.inl ⟨by rfl, ?y74⟩) (by assumption) ?r74
          case y74 => (intro w hSw; (try dsimp only at hSw); first | (go_simp; done) | (go_simp; with_reducible rfl))
          try simp only [Act.put, List.setIfInBounds_toArray, List.set_cons_zero, List.set_cons_succ]
          refine wpAnyH_take (i := 12) (oi := { dst := some 52, op := Go.Op.move (Go.Operand.tmp 10), type := 3, pos := "readers.go:50", after := #[{ on := 10, ground := Go.Ground.guard }], guard := some (10, true) }) (v := ?v75) rfl (by kernel_rfl) (by kernel_rfl) (by kernel_rfl) (fun _ _ _ h => h) (Or.inl ⟨by rfl, ?y75⟩) (by assumption) ?r75
          case y75 => (intro w hSw; (try dsimp only at hSw); first | (go_simp; done) | (go_simp; with_reducible rfl))
          try simp only [Act.put, List.setIfInBounds_toArray, List.set_cons_zero, List.set_cons_succ]
          refine wpAnyH_take (i := 13) (oi := { dst := some 53, op := Go.Op.binOp Go.BinOp.eql 3 (Go.Operand.tmp 51) (Go.Operand.tmp 52) 3, type := 4, pos := "readers.go:50", after := #[{ on := 11, ground := Go.Ground.data }, { on := 12, ground := Go.Ground.data }, { on := 10, ground := Go.Ground.guard }], guard := some (10, true) }) (v := ?v76) rfl (by kernel_rfl) (by kernel_rfl) (by kernel_rfl) (fun _ _ _ h => h) (Or.inl ⟨by rfl, ?y76⟩) (by assumption) ?r76
          case y76 => (intro w hSw; (try dsimp only at hSw); first | (go_simp; done) | (go_simp; with_reducible rfl))
          try simp only [Act.put, List.setIfInBounds_toArray, List.set_cons_zero, List.set_cons_succ]
          refine wpAnyH_take (i := 14) (oi := { dst := some 54, op := Go.Op.pick (Go.Operand.tmp 50) (Go.Operand.tmp 53) (Go.Operand.const (Go.Value.bool false)), type := 4, pos := "readers.go:50", after := #[{ on := 10, ground := Go.Ground.data }, { on := 13, ground := Go.Ground.data }], guard := none }) (v := ?v77) rfl (by kernel_rfl) (by kernel_rfl) (by kernel_rfl) (fun _ _ _ h => h) (Or.inl ⟨by rfl, ?y77⟩) (by assumption) ?r77
          case y77 => (intro w hSw; (try dsimp only at hSw); first | (go_simp; done) | (go_simp; with_reducible rfl))
          try simp only [Act.put, List.setIfInBounds_toArray, List.set_cons_zero, List.set_cons_succ]
          refine wpAnyH_take (i := 15) (oi := { dst := some 55, op := Go.Op.move (Go.Operand.tmp 54), type := 4, pos := "readers.go:50", after := #[{ on := 14, ground := Go.Ground.data }, { on := 10, ground := Go.Ground.chain }], guard := none }) (v := ?v78) rfl (by kernel_rfl) (by kernel_rfl) (by kernel_rfl) (fun _ _ _ h => h) (Or.inl ⟨by rfl, ?y78⟩) (by assumption) ?r78
          case y78 => (intro w hSw; (try dsimp only at hSw); first | (go_simp; done) | (go_simp; with_reducible rfl))
          try simp only [Act.put, List.setIfInBounds_toArray, List.set_cons_zero, List.set_cons_succ]
          refine wpAnyH_ready (rs := [16]) (by kernel_rfl) (by simp) ?_
          refine AllReadyH.cons (o := { dst := some 56, op := Go.Op.call { callee := Go.Callee.value (Go.Operand.func 11), args := #[], argTypes := #[] }, type := 4, pos := "readers.go:50", after := #[{ on := 15, ground := Go.Ground.chain }, { on := 15, ground := Go.Ground.guard }], guard := some (15, true) }) rfl (fun K hK => ?s79) ?m79
          case m79 => exact AllReadyH.nil
          go_simp; go_at_call 11; refine (c11 w4.drew (hL5.below (fun k hk => rfl) (Nat.le_refl _))).mono ?_; rintro e w8 ⟨rfl, hd8⟩
          refine hK.out _ _ ?h79 (fun hHeld => ?k79)
          case h79 => ((try dsimp only); all_goals trivial)
          clear hK K
          try simp only [Act.put, List.setIfInBounds_toArray, List.set_cons_zero, List.set_cons_succ]
          refine wpAnyH_take (i := 17) (oi := { dst := some 57, op := Go.Op.pick (Go.Operand.tmp 55) (Go.Operand.tmp 56) (Go.Operand.const (Go.Value.bool false)), type := 4, pos := "readers.go:50", after := #[{ on := 15, ground := Go.Ground.data }, { on := 16, ground := Go.Ground.data }], guard := none }) (v := ?v80) rfl (by kernel_rfl) (by kernel_rfl) (by kernel_rfl) (fun _ _ _ h => h) (Or.inl ⟨by rfl, ?y80⟩) (by assumption) ?r80
          case y80 => (intro w hSw; (try dsimp only at hSw); first | (go_simp; done) | (go_simp; with_reducible rfl))
          try simp only [Act.put, List.setIfInBounds_toArray, List.set_cons_zero, List.set_cons_succ]
          refine wpAnyH_take (i := 18) (oi := { dst := some 6, op := Go.Op.assign (Go.Operand.tmp 57), type := 4, pos := "readers.go:50", after := #[{ on := 17, ground := Go.Ground.data }, { on := 16, ground := Go.Ground.chain }, { on := 0, ground := Go.Ground.phase }, { on := 1, ground := Go.Ground.phase }, { on := 2, ground := Go.Ground.phase }, { on := 3, ground := Go.Ground.phase }, { on := 4, ground := Go.Ground.phase }, { on := 5, ground := Go.Ground.phase }, { on := 6, ground := Go.Ground.phase }, { on := 7, ground := Go.Ground.phase }, { on := 8, ground := Go.Ground.phase }, { on := 9, ground := Go.Ground.phase }, { on := 10, ground := Go.Ground.phase }, { on := 11, ground := Go.Ground.phase }, { on := 12, ground := Go.Ground.phase }, { on := 13, ground := Go.Ground.phase }, { on := 14, ground := Go.Ground.phase }, { on := 15, ground := Go.Ground.phase }, { on := 16, ground := Go.Ground.phase }, { on := 17, ground := Go.Ground.phase }], guard := none }) (v := ?v81) rfl (by kernel_rfl) (by kernel_rfl) (by kernel_rfl) (fun _ _ _ h => h) (Or.inl ⟨by rfl, ?y81⟩) (by assumption) ?r81
          case y81 => (intro w hSw; (try dsimp only at hSw); first | (go_simp; done) | (go_simp; with_reducible rfl))
          try simp only [Act.put, List.setIfInBounds_toArray, List.set_cons_zero, List.set_cons_succ]
          refine wpAnyH_done (by kernel_rfl) ?_ _
          refine NoPanic.normal ?_
          go_wp2
          go_ret
          exact ⟨rfl, (below_drew1 B5.out).trans (hd8.mono B5.out.size)⟩
        refine AllReadyH.cons (o := { dst := some 45, op := Go.Op.call { callee := Go.Callee.builtin Go.Builtin.len, args := #[Go.Operand.tmp 44], argTypes := #[29] }, type := 3, pos := "readers.go:50", after := #[{ on := 4, ground := Go.Ground.data }], guard := none }) rfl (fun K hK => ?s82) ?m82
        case s82 =>
          go_simp
          refine hK.out _ _ ?h82 (fun hHeld => ?k82)
          case h82 => ((try dsimp only); all_goals trivial)
          clear hK K
          try simp only [Act.put, List.setIfInBounds_toArray, List.set_cons_zero, List.set_cons_succ]
          refine wpAnyH_ready (rs := [1, 6]) (by kernel_rfl) (by simp) ?_
          refine AllReadyH.cons (o := { dst := some 41, op := Go.Op.convert 29 9 (Go.Operand.tmp 40), type := 9, pos := "readers.go:50", after := #[{ on := 0, ground := Go.Ground.data }], guard := none }) rfl (fun K hK => ?s83) ?m83
          case s83 =>
            go_simp
            refine hK.out _ _ ?h83 (fun hHeld => ?k83)
            case h83 => ((try dsimp only); all_goals trivial)
            clear hK K
            try simp only [Act.put, List.setIfInBounds_toArray, List.set_cons_zero, List.set_cons_succ]
            refine wpAnyH_ready (rs := [6]) (by kernel_rfl) (by simp) ?_
            refine AllReadyH.cons (o := { dst := some 46, op := Go.Op.call { callee := Go.Callee.builtin Go.Builtin.min, args := #[Go.Operand.tmp 43, Go.Operand.tmp 45], argTypes := #[3, 3] }, type := 3, pos := "readers.go:50", after := #[{ on := 3, ground := Go.Ground.data }, { on := 5, ground := Go.Ground.data }], guard := none }) rfl (fun K hK => ?s84) ?m84
            case m84 => exact AllReadyH.nil
            go_simp
            refine hK.out _ _ ?h84 (fun hHeld => ?k84)
            case h84 => ((try dsimp only); all_goals trivial)
            clear hK K
            try simp only [Act.put, List.setIfInBounds_toArray, List.set_cons_zero, List.set_cons_succ]
            refine wpAnyH_take (i := 7) (oi := { dst := some 47, op := Go.Op.slice 29 (Go.Operand.tmp 42) none (some (Go.Operand.tmp 46)) none, type := 29, pos := "readers.go:50", after := #[{ on := 2, ground := Go.Ground.data }, { on := 6, ground := Go.Ground.data }], guard := none }) (v := ?v85) rfl (by kernel_rfl) (by kernel_rfl) (by kernel_rfl) (fun _ _ _ h => h) (Or.inl ⟨by rfl, ?y85⟩) (by assumption) ?r85
            case y85 => (intro w hSw; (try dsimp only at hSw); first | (go_simp; done) | (go_simp; with_reducible rfl))
            try simp only [Act.put, List.setIfInBounds_toArray, List.set_cons_zero, List.set_cons_succ]
            refine wpAnyH_ready (rs := [8]) (by kernel_rfl) (by simp) ?_
            refine AllReadyH.cons (o := { dst := some 48, op := Go.Op.convert 29 9 (Go.Operand.tmp 47), type := 9, pos := "readers.go:50", after := #[{ on := 7, ground := Go.Ground.data }], guard := none }) rfl (fun K hK => ?s86) ?m86
            case m86 => exact AllReadyH.nil
            go_simp
            refine hK.out _ _ ?h86 (fun hHeld => ?k86)
            case h86 => ((try dsimp only); all_goals trivial)
            clear hK K
            try simp only [Act.put, List.setIfInBounds_toArray, List.set_cons_zero, List.set_cons_succ]
            refine wpAnyH_take (i := 9) (oi := { dst := some 49, op := Go.Op.binOp Go.BinOp.eql 9 (Go.Operand.tmp 41) (Go.Operand.tmp 48) 9, type := 4, pos := "readers.go:50", after := #[{ on := 1, ground := Go.Ground.data }, { on := 8, ground := Go.Ground.data }], guard := none }) (v := ?v87) rfl (by kernel_rfl) (by kernel_rfl) (by kernel_rfl) (fun _ _ _ h => h) (Or.inl ⟨by rfl, ?y87⟩) (by assumption) ?r87
            case y87 => (intro w hSw; (try dsimp only at hSw); first | (go_simp; done) | (go_simp; with_reducible rfl))
            try simp only [Act.put, List.setIfInBounds_toArray, List.set_cons_zero, List.set_cons_succ]
            refine wpAnyH_take (i := 10) (oi := { dst := some 50, op := Go.Op.move (Go.Operand.tmp 49), type := 4, pos := "readers.go:50", after := #[{ on := 9, ground := Go.Ground.data }], guard := none }) (v := ?v88) rfl (by kernel_rfl) (by kernel_rfl) (by kernel_rfl) (fun _ _ _ h => h) (Or.inl ⟨by rfl, ?y88⟩) (by assumption) ?r88
            case y88 => (intro w hSw; (try dsimp only at hSw); first | (go_simp; done) | (go_simp; with_reducible rfl))
            try simp only [Act.put, List.setIfInBounds_toArray, List.set_cons_zero, List.set_cons_succ]
            refine wpAnyH_take (i := 11) (oi := { dst := some 51, op := Go.Op.move (Go.Operand.tmp 9), type := 3, pos := "readers.go:50", after := #[{ on := 10, ground := Go.Ground.guard }], guard := some (10, true) }) (v := ?v89) rfl (by kernel_rfl) (by kernel_rfl) (by kernel_rfl) (fun _ _ _ h => h) (Or.inl ⟨by rfl, ?y89⟩) (by assumption) ?r89
            case y89 => (intro w hSw; (try dsimp only at hSw); first | (go_simp; done) | (go_simp; with_reducible rfl))
            try simp only [Act.put, List.setIfInBounds_toArray, List.set_cons_zero, List.set_cons_succ]
            refine wpAnyH_take (i := 12) (oi := { dst := some 52, op := Go.Op.move (Go.Operand.tmp 10), type := 3, pos := "readers.go:50", after := #[{ on := 10, ground := Go.Ground.guard }], guard := some (10, true) }) (v := ?v90) rfl (by kernel_rfl) (by kernel_rfl) (by kernel_rfl) (fun _ _ _ h => h) (Or.inl ⟨by rfl, ?y90⟩) (by assumption) ?r90
            case y90 => (intro w hSw; (try dsimp only at hSw); first | (go_simp; done) | (go_simp; with_reducible rfl))
            try simp only [Act.put, List.setIfInBounds_toArray, List.set_cons_zero, List.set_cons_succ]
            refine wpAnyH_take (i := 13) (oi := { dst := some 53, op := Go.Op.binOp Go.BinOp.eql 3 (Go.Operand.tmp 51) (Go.Operand.tmp 52) 3, type := 4, pos := "readers.go:50", after := #[{ on := 11, ground := Go.Ground.data }, { on := 12, ground := Go.Ground.data }, { on := 10, ground := Go.Ground.guard }], guard := some (10, true) }) (v := ?v91) rfl (by kernel_rfl) (by kernel_rfl) (by kernel_rfl) (fun _ _ _ h => h) (Or.inl ⟨by rfl, ?y91⟩) (by assumption) ?r91
            case y91 => (intro w hSw; (try dsimp only at hSw); first | (go_simp; done) | (go_simp; with_reducible rfl))
            try simp only [Act.put, List.setIfInBounds_toArray, List.set_cons_zero, List.set_cons_succ]
            refine wpAnyH_take (i := 14) (oi := { dst := some 54, op := Go.Op.pick (Go.Operand.tmp 50) (Go.Operand.tmp 53) (Go.Operand.const (Go.Value.bool false)), type := 4, pos := "readers.go:50", after := #[{ on := 10, ground := Go.Ground.data }, { on := 13, ground := Go.Ground.data }], guard := none }) (v := ?v92) rfl (by kernel_rfl) (by kernel_rfl) (by kernel_rfl) (fun _ _ _ h => h) (Or.inl ⟨by rfl, ?y92⟩) (by assumption) ?r92
            case y92 => (intro w hSw; (try dsimp only at hSw); first | (go_simp; done) | (go_simp; with_reducible rfl))
            try simp only [Act.put, List.setIfInBounds_toArray, List.set_cons_zero, List.set_cons_succ]
            refine wpAnyH_take (i := 15) (oi := { dst := some 55, op := Go.Op.move (Go.Operand.tmp 54), type := 4, pos := "readers.go:50", after := #[{ on := 14, ground := Go.Ground.data }, { on := 10, ground := Go.Ground.chain }], guard := none }) (v := ?v93) rfl (by kernel_rfl) (by kernel_rfl) (by kernel_rfl) (fun _ _ _ h => h) (Or.inl ⟨by rfl, ?y93⟩) (by assumption) ?r93
            case y93 => (intro w hSw; (try dsimp only at hSw); first | (go_simp; done) | (go_simp; with_reducible rfl))
            try simp only [Act.put, List.setIfInBounds_toArray, List.set_cons_zero, List.set_cons_succ]
            refine wpAnyH_ready (rs := [16]) (by kernel_rfl) (by simp) ?_
            refine AllReadyH.cons (o := { dst := some 56, op := Go.Op.call { callee := Go.Callee.value (Go.Operand.func 11), args := #[], argTypes := #[] }, type := 4, pos := "readers.go:50", after := #[{ on := 15, ground := Go.Ground.chain }, { on := 15, ground := Go.Ground.guard }], guard := some (15, true) }) rfl (fun K hK => ?s94) ?m94
            case m94 => exact AllReadyH.nil
            go_simp; go_at_call 11; refine (c11 w4.drew (hL5.below (fun k hk => rfl) (Nat.le_refl _))).mono ?_; rintro e w8 ⟨rfl, hd8⟩
            refine hK.out _ _ ?h94 (fun hHeld => ?k94)
            case h94 => ((try dsimp only); all_goals trivial)
            clear hK K
            try simp only [Act.put, List.setIfInBounds_toArray, List.set_cons_zero, List.set_cons_succ]
            refine wpAnyH_take (i := 17) (oi := { dst := some 57, op := Go.Op.pick (Go.Operand.tmp 55) (Go.Operand.tmp 56) (Go.Operand.const (Go.Value.bool false)), type := 4, pos := "readers.go:50", after := #[{ on := 15, ground := Go.Ground.data }, { on := 16, ground := Go.Ground.data }], guard := none }) (v := ?v95) rfl (by kernel_rfl) (by kernel_rfl) (by kernel_rfl) (fun _ _ _ h => h) (Or.inl ⟨by rfl, ?y95⟩) (by assumption) ?r95
            case y95 => (intro w hSw; (try dsimp only at hSw); first | (go_simp; done) | (go_simp; with_reducible rfl))
            try simp only [Act.put, List.setIfInBounds_toArray, List.set_cons_zero, List.set_cons_succ]
            refine wpAnyH_take (i := 18) (oi := { dst := some 6, op := Go.Op.assign (Go.Operand.tmp 57), type := 4, pos := "readers.go:50", after := #[{ on := 17, ground := Go.Ground.data }, { on := 16, ground := Go.Ground.chain }, { on := 0, ground := Go.Ground.phase }, { on := 1, ground := Go.Ground.phase }, { on := 2, ground := Go.Ground.phase }, { on := 3, ground := Go.Ground.phase }, { on := 4, ground := Go.Ground.phase }, { on := 5, ground := Go.Ground.phase }, { on := 6, ground := Go.Ground.phase }, { on := 7, ground := Go.Ground.phase }, { on := 8, ground := Go.Ground.phase }, { on := 9, ground := Go.Ground.phase }, { on := 10, ground := Go.Ground.phase }, { on := 11, ground := Go.Ground.phase }, { on := 12, ground := Go.Ground.phase }, { on := 13, ground := Go.Ground.phase }, { on := 14, ground := Go.Ground.phase }, { on := 15, ground := Go.Ground.phase }, { on := 16, ground := Go.Ground.phase }, { on := 17, ground := Go.Ground.phase }], guard := none }) (v := ?v96) rfl (by kernel_rfl) (by kernel_rfl) (by kernel_rfl) (fun _ _ _ h => h) (Or.inl ⟨by rfl, ?y96⟩) (by assumption) ?r96
            case y96 => (intro w hSw; (try dsimp only at hSw); first | (go_simp; done) | (go_simp; with_reducible rfl))
            try simp only [Act.put, List.setIfInBounds_toArray, List.set_cons_zero, List.set_cons_succ]
            refine wpAnyH_done (by kernel_rfl) ?_ _
            refine NoPanic.normal ?_
            go_wp2
            go_ret
            exact ⟨rfl, (below_drew1 B5.out).trans (hd8.mono B5.out.size)⟩
          refine AllReadyH.cons (o := { dst := some 46, op := Go.Op.call { callee := Go.Callee.builtin Go.Builtin.min, args := #[Go.Operand.tmp 43, Go.Operand.tmp 45], argTypes := #[3, 3] }, type := 3, pos := "readers.go:50", after := #[{ on := 3, ground := Go.Ground.data }, { on := 5, ground := Go.Ground.data }], guard := none }) rfl (fun K hK => ?s97) ?m97
          case s97 =>
            go_simp
            refine hK.out _ _ ?h97 (fun hHeld => ?k97)
            case h97 => ((try dsimp only); all_goals trivial)
            clear hK K
            try simp only [Act.put, List.setIfInBounds_toArray, List.set_cons_zero, List.set_cons_succ]
            refine wpAnyH_take (i := 7) (oi := { dst := some 47, op := Go.Op.slice 29 (Go.Operand.tmp 42) none (some (Go.Operand.tmp 46)) none, type := 29, pos := "readers.go:50", after := #[{ on := 2, ground := Go.Ground.data }, { on := 6, ground := Go.Ground.data }], guard := none }) (v := ?v98) rfl (by kernel_rfl) (by kernel_rfl) (by kernel_rfl) (fun _ _ _ h => h) (Or.inl ⟨by rfl, ?y98⟩) (by assumption) ?r98
            case y98 => (intro w hSw; (try dsimp only at hSw); first | (go_simp; done) | (go_simp; with_reducible rfl))
            try simp only [Act.put, List.setIfInBounds_toArray, List.set_cons_zero, List.set_cons_succ]
            refine wpAnyH_ready (rs := [1, 8]) (by kernel_rfl) (by simp) ?_
            refine AllReadyH.cons (o := { dst := some 41, op := Go.Op.convert 29 9 (Go.Operand.tmp 40), type := 9, pos := "readers.go:50", after := #[{ on := 0, ground := Go.Ground.data }], guard := none }) rfl (fun K hK => ?s99) ?m99
            case s99 =>
              go_simp
              refine hK.out _ _ ?h99 (fun hHeld => ?k99)
              case h99 => ((try dsimp only); all_goals trivial)
              clear hK K
              try simp only [Act.put, List.setIfInBounds_toArray, List.set_cons_zero, List.set_cons_succ]
              refine wpAnyH_ready (rs := [8]) (by kernel_rfl) (by simp) ?_
              refine AllReadyH.cons (o := { dst := some 48, op := Go.Op.convert 29 9 (Go.Operand.tmp 47), type := 9, pos := "readers.go:50", after := #[{ on := 7, ground := Go.Ground.data }], guard := none }) rfl (fun K hK => ?s100) ?m100
              case m100 => exact AllReadyH.nil
              go_simp
              refine hK.out _ _ ?h100 (fun hHeld => ?k100)
              case h100 => ((try dsimp only); all_goals trivial)
              clear hK K
              try simp only [Act.put, List.setIfInBounds_toArray, List.set_cons_zero, List.set_cons_succ]
              refine wpAnyH_take (i := 9) (oi := { dst := some 49, op := Go.Op.binOp Go.BinOp.eql 9 (Go.Operand.tmp 41) (Go.Operand.tmp 48) 9, type := 4, pos := "readers.go:50", after := #[{ on := 1, ground := Go.Ground.data }, { on := 8, ground := Go.Ground.data }], guard := none }) (v := ?v101) rfl (by kernel_rfl) (by kernel_rfl) (by kernel_rfl) (fun _ _ _ h => h) (Or.inl ⟨by rfl, ?y101⟩) (by assumption) ?r101
              case y101 => (intro w hSw; (try dsimp only at hSw); first | (go_simp; done) | (go_simp; with_reducible rfl))
              try simp only [Act.put, List.setIfInBounds_toArray, List.set_cons_zero, List.set_cons_succ]
              refine wpAnyH_take (i := 10) (oi := { dst := some 50, op := Go.Op.move (Go.Operand.tmp 49), type := 4, pos := "readers.go:50", after := #[{ on := 9, ground := Go.Ground.data }], guard := none }) (v := ?v102) rfl (by kernel_rfl) (by kernel_rfl) (by kernel_rfl) (fun _ _ _ h => h) (Or.inl ⟨by rfl, ?y102⟩) (by assumption) ?r102
              case y102 => (intro w hSw; (try dsimp only at hSw); first | (go_simp; done) | (go_simp; with_reducible rfl))
              try simp only [Act.put, List.setIfInBounds_toArray, List.set_cons_zero, List.set_cons_succ]
              refine wpAnyH_take (i := 11) (oi := { dst := some 51, op := Go.Op.move (Go.Operand.tmp 9), type := 3, pos := "readers.go:50", after := #[{ on := 10, ground := Go.Ground.guard }], guard := some (10, true) }) (v := ?v103) rfl (by kernel_rfl) (by kernel_rfl) (by kernel_rfl) (fun _ _ _ h => h) (Or.inl ⟨by rfl, ?y103⟩) (by assumption) ?r103
              case y103 => (intro w hSw; (try dsimp only at hSw); first | (go_simp; done) | (go_simp; with_reducible rfl))
              try simp only [Act.put, List.setIfInBounds_toArray, List.set_cons_zero, List.set_cons_succ]
              refine wpAnyH_take (i := 12) (oi := { dst := some 52, op := Go.Op.move (Go.Operand.tmp 10), type := 3, pos := "readers.go:50", after := #[{ on := 10, ground := Go.Ground.guard }], guard := some (10, true) }) (v := ?v104) rfl (by kernel_rfl) (by kernel_rfl) (by kernel_rfl) (fun _ _ _ h => h) (Or.inl ⟨by rfl, ?y104⟩) (by assumption) ?r104
              case y104 => (intro w hSw; (try dsimp only at hSw); first | (go_simp; done) | (go_simp; with_reducible rfl))
              try simp only [Act.put, List.setIfInBounds_toArray, List.set_cons_zero, List.set_cons_succ]
              refine wpAnyH_take (i := 13) (oi := { dst := some 53, op := Go.Op.binOp Go.BinOp.eql 3 (Go.Operand.tmp 51) (Go.Operand.tmp 52) 3, type := 4, pos := "readers.go:50", after := #[{ on := 11, ground := Go.Ground.data }, { on := 12, ground := Go.Ground.data }, { on := 10, ground := Go.Ground.guard }], guard := some (10, true) }) (v := ?v105) rfl (by kernel_rfl) (by kernel_rfl) (by kernel_rfl) (fun _ _ _ h => h) (Or.inl ⟨by rfl, ?y105⟩) (by assumption) ?r105
              case y105 => (intro w hSw; (try dsimp only at hSw); first | (go_simp; done) | (go_simp; with_reducible rfl))
              try simp only [Act.put, List.setIfInBounds_toArray, List.set_cons_zero, List.set_cons_succ]
              refine wpAnyH_take (i := 14) (oi := { dst := some 54, op := Go.Op.pick (Go.Operand.tmp 50) (Go.Operand.tmp 53) (Go.Operand.const (Go.Value.bool false)), type := 4, pos := "readers.go:50", after := #[{ on := 10, ground := Go.Ground.data }, { on := 13, ground := Go.Ground.data }], guard := none }) (v := ?v106) rfl (by kernel_rfl) (by kernel_rfl) (by kernel_rfl) (fun _ _ _ h => h) (Or.inl ⟨by rfl, ?y106⟩) (by assumption) ?r106
              case y106 => (intro w hSw; (try dsimp only at hSw); first | (go_simp; done) | (go_simp; with_reducible rfl))
              try simp only [Act.put, List.setIfInBounds_toArray, List.set_cons_zero, List.set_cons_succ]
              refine wpAnyH_take (i := 15) (oi := { dst := some 55, op := Go.Op.move (Go.Operand.tmp 54), type := 4, pos := "readers.go:50", after := #[{ on := 14, ground := Go.Ground.data }, { on := 10, ground := Go.Ground.chain }], guard := none }) (v := ?v107) rfl (by kernel_rfl) (by kernel_rfl) (by kernel_rfl) (fun _ _ _ h => h) (Or.inl ⟨by rfl, ?y107⟩) (by assumption) ?r107
              case y107 => (intro w hSw; (try dsimp only at hSw); first | (go_simp; done) | (go_simp; with_reducible rfl))
              try simp only [Act.put, List.setIfInBounds_toArray, List.set_cons_zero, List.set_cons_succ]
              refine wpAnyH_ready (rs := [16]) (by kernel_rfl) (by simp) ?_
              refine AllReadyH.cons (o := { dst := some 56, op := Go.Op.call { callee := Go.Callee.value (Go.Operand.func 11), args := #[], argTypes := #[] }, type := 4, pos := "readers.go:50", after := #[{ on := 15, ground := Go.Ground.chain }, { on := 15, ground := Go.Ground.guard }], guard := some (15, true) }) rfl (fun K hK => ?s108) ?m108
              case m108 => exact AllReadyH.nil
              go_simp; go_at_call 11; refine (c11 w4.drew (hL5.below (fun k hk => rfl) (Nat.le_refl _))).mono ?_; rintro e w8 ⟨rfl, hd8⟩
              refine hK.out _ _ ?h108 (fun hHeld => ?k108)
              case h108 => ((try dsimp only); all_goals trivial)
              clear hK K
              try simp only [Act.put, List.setIfInBounds_toArray, List.set_cons_zero, List.set_cons_succ]
              refine wpAnyH_take (i := 17) (oi := { dst := some 57, op := Go.Op.pick (Go.Operand.tmp 55) (Go.Operand.tmp 56) (Go.Operand.const (Go.Value.bool false)), type := 4, pos := "readers.go:50", after := #[{ on := 15, ground := Go.Ground.data }, { on := 16, ground := Go.Ground.data }], guard := none }) (v := ?v109) rfl (by kernel_rfl) (by kernel_rfl) (by kernel_rfl) (fun _ _ _ h => h) (Or.inl ⟨by rfl, ?y109⟩) (by assumption) ?r109
              case y109 => (intro w hSw; (try dsimp only at hSw); first | (go_simp; done) | (go_simp; with_reducible rfl))
              try simp only [Act.put, List.setIfInBounds_toArray, List.set_cons_zero, List.set_cons_succ]
              refine wpAnyH_take (i := 18) (oi := { dst := some 6, op := Go.Op.assign (Go.Operand.tmp 57), type := 4, pos := "readers.go:50", after := #[{ on := 17, ground := Go.Ground.data }, { on := 16, ground := Go.Ground.chain }, { on := 0, ground := Go.Ground.phase }, { on := 1, ground := Go.Ground.phase }, { on := 2, ground := Go.Ground.phase }, { on := 3, ground := Go.Ground.phase }, { on := 4, ground := Go.Ground.phase }, { on := 5, ground := Go.Ground.phase }, { on := 6, ground := Go.Ground.phase }, { on := 7, ground := Go.Ground.phase }, { on := 8, ground := Go.Ground.phase }, { on := 9, ground := Go.Ground.phase }, { on := 10, ground := Go.Ground.phase }, { on := 11, ground := Go.Ground.phase }, { on := 12, ground := Go.Ground.phase }, { on := 13, ground := Go.Ground.phase }, { on := 14, ground := Go.Ground.phase }, { on := 15, ground := Go.Ground.phase }, { on := 16, ground := Go.Ground.phase }, { on := 17, ground := Go.Ground.phase }], guard := none }) (v := ?v110) rfl (by kernel_rfl) (by kernel_rfl) (by kernel_rfl) (fun _ _ _ h => h) (Or.inl ⟨by rfl, ?y110⟩) (by assumption) ?r110
              case y110 => (intro w hSw; (try dsimp only at hSw); first | (go_simp; done) | (go_simp; with_reducible rfl))
              try simp only [Act.put, List.setIfInBounds_toArray, List.set_cons_zero, List.set_cons_succ]
              refine wpAnyH_done (by kernel_rfl) ?_ _
              refine NoPanic.normal ?_
              go_wp2
              go_ret
              exact ⟨rfl, (below_drew1 B5.out).trans (hd8.mono B5.out.size)⟩
            refine AllReadyH.cons (o := { dst := some 48, op := Go.Op.convert 29 9 (Go.Operand.tmp 47), type := 9, pos := "readers.go:50", after := #[{ on := 7, ground := Go.Ground.data }], guard := none }) rfl (fun K hK => ?s111) ?m111
            case s111 =>
              go_simp
              refine hK.out _ _ ?h111 (fun hHeld => ?k111)
              case h111 => ((try dsimp only); all_goals trivial)
              clear hK K
              try simp only [Act.put, List.setIfInBounds_toArray, List.set_cons_zero, List.set_cons_succ]
              refine wpAnyH_ready (rs := [1]) (by kernel_rfl) (by simp) ?_
              refine AllReadyH.cons (o := { dst := some 41, op := Go.Op.convert 29 9 (Go.Operand.tmp 40), type := 9, pos := "readers.go:50", after := #[{ on := 0, ground := Go.Ground.data }], guard := none }) rfl (fun K hK => ?s112) ?m112
              case m112 => exact AllReadyH.nil
              go_simp
              refine hK.out _ _ ?h112 (fun hHeld => ?k112)
              case h112 => ((try dsimp only); all_goals trivial)
              clear hK K
              try simp only [Act.put, List.setIfInBounds_toArray, List.set_cons_zero, List.set_cons_succ]
              refine wpAnyH_take (i := 9) (oi := { dst := some 49, op := Go.Op.binOp Go.BinOp.eql 9 (Go.Operand.tmp 41) (Go.Operand.tmp 48) 9, type := 4, pos := "readers.go:50", after := #[{ on := 1, ground := Go.Ground.data }, { on := 8, ground := Go.Ground.data }], guard := none }) (v := ?v113) rfl (by kernel_rfl) (by kernel_rfl) (by kernel_rfl) (fun _ _ _ h => h) (Or.inl ⟨by rfl, ?y113⟩) (by assumption) ?r113
              case y113 => (intro w hSw; (try dsimp only at hSw); first | (go_simp; done) | (go_simp; with_reducible rfl))
              try simp only [Act.put, List.setIfInBounds_toArray, List.set_cons_zero, List.set_cons_succ]
              refine wpAnyH_take (i := 10) (oi := { dst := some 50, op := Go.Op.move (Go.Operand.tmp 49), type := 4, pos := "readers.go:50", after := #[{ on := 9, ground := Go.Ground.data }], guard := none }) (v := ?v114) rfl (by kernel_rfl) (by kernel_rfl) (by kernel_rfl) (fun _ _ _ h => h) (Or.inl ⟨by rfl, ?y114⟩) (by assumption) ?r114
              case y114 => (intro w hSw; (try dsimp only at hSw); first | (go_simp; done) | (go_simp; with_reducible rfl))
              try simp only [Act.put, List.setIfInBounds_toArray, List.set_cons_zero, List.set_cons_succ]
              refine wpAnyH_take (i := 11) (oi := { dst := some 51, op := Go.Op.move (Go.Operand.tmp 9), type := 3, pos := "readers.go:50", after := #[{ on := 10, ground := Go.Ground.guard }], guard := some (10, true) }) (v := ?v115) rfl (by kernel_rfl) (by kernel_rfl) (by kernel_rfl) (fun _ _ _ h => h) (Or.inl ⟨by rfl, ?y115⟩) (by assumption) ?r115
              case y115 => (intro w hSw; (try dsimp only at hSw); first | (go_simp; done) | (go_simp; with_reducible rfl))
              try simp only [Act.put, List.setIfInBounds_toArray, List.set_cons_zero, List.set_cons_succ]
              refine wpAnyH_take (i := 12) (oi := { dst := some 52, op := Go.Op.move (Go.Operand.tmp 10), type := 3, pos := "readers.go:50", after := #[{ on := 10, ground := Go.Ground.guard }], guard := some (10, true) }) (v := ?v116) rfl (by kernel_rfl) (by kernel_rfl) (by kernel_rfl) (fun _ _ _ h => h) (Or.inl ⟨by rfl, ?y116⟩) (by assumption) ?r116
              case y116 => (intro w hSw; (try dsimp only at hSw); first | (go_simp; done) | (go_simp; with_reducible rfl))
              try simp only [Act.put, List.setIfInBounds_toArray, List.set_cons_zero, List.set_cons_succ]
              refine wpAnyH_take (i := 13) (oi := { dst := some 53, op := Go.Op.binOp Go.BinOp.eql 3 (Go.Operand.tmp 51) (Go.Operand.tmp 52) 3, type := 4, pos := "readers.go:50", after := #[{ on := 11, ground := Go.Ground.data }, { on := 12, ground := Go.Ground.data }, { on := 10, ground := Go.Ground.guard }], guard := some (10, true) }) (v := ?v117) rfl (by kernel_rfl) (by kernel_rfl) (by kernel_rfl) (fun _ _ _ h => h) (Or.inl ⟨by rfl, ?y117⟩) (by assumption) ?r117
              case y117 => (intro w hSw; (try dsimp only at hSw); first | (go_simp; done) | (go_simp; with_reducible rfl))
              try simp only [Act.put, List.setIfInBounds_toArray, List.set_cons_zero, List.set_cons_succ]
              refine wpAnyH_take (i := 14) (oi := { dst := some 54, op := Go.Op.pick (Go.Operand.tmp 50) (Go.Operand.tmp 53) (Go.Operand.const (Go.Value.bool false)), type := 4, pos := "readers.go:50", after := #[{ on := 10, ground := Go.Ground.data }, { on := 13, ground := Go.Ground.data }], guard := none }) (v := ?v118) rfl (by kernel_rfl) (by kernel_rfl) (by kernel_rfl) (fun _ _ _ h => h) (Or.inl ⟨by rfl, ?y118⟩) (by assumption) ?r118
              case y118 => (intro w hSw; (try dsimp only at hSw); first | (go_simp; done) | (go_simp; with_reducible rfl))
              try simp only [Act.put, List.setIfInBounds_toArray, List.set_cons_zero, List.set_cons_succ]
              refine wpAnyH_take (i := 15) (oi := { dst := some 55, op := Go.Op.move (Go.Operand.tmp 54), type := 4, pos := "readers.go:50", after := #[{ on := 14, ground := Go.Ground.data }, { on := 10, ground := Go.Ground.chain }], guard := none }) (v := ?v119) rfl (by kernel_rfl) (by kernel_rfl) (by kernel_rfl) (fun _ _ _ h => h) (Or.inl ⟨by rfl, ?y119⟩) (by assumption) ?r119
              case y119 => (intro w hSw; (try dsimp only at hSw); first | (go_simp; done) | (go_simp; with_reducible rfl))
              try simp only [Act.put, List.setIfInBounds_toArray, List.set_cons_zero, List.set_cons_succ]
              refine wpAnyH_ready (rs := [16]) (by kernel_rfl) (by simp) ?_
              refine AllReadyH.cons (o := { dst := some 56, op := Go.Op.call { callee := Go.Callee.value (Go.Operand.func 11), args := #[], argTypes := #[] }, type := 4, pos := "readers.go:50", after := #[{ on := 15, ground := Go.Ground.chain }, { on := 15, ground := Go.Ground.guard }], guard := some (15, true) }) rfl (fun K hK => ?s120) ?m120
              case m120 => exact AllReadyH.nil
              go_simp; go_at_call 11; refine (c11 w4.drew (hL5.below (fun k hk => rfl) (Nat.le_refl _))).mono ?_; rintro e w8 ⟨rfl, hd8⟩
              refine hK.out _ _ ?h120 (fun hHeld => ?k120)
              case h120 => ((try dsimp only); all_goals trivial)
              clear hK K
              try simp only [Act.put, List.setIfInBounds_toArray, List.set_cons_zero, List.set_cons_succ]
              refine wpAnyH_take (i := 17) (oi := { dst := some 57, op := Go.Op.pick (Go.Operand.tmp 55) (Go.Operand.tmp 56) (Go.Operand.const (Go.Value.bool false)), type := 4, pos := "readers.go:50", after := #[{ on := 15, ground := Go.Ground.data }, { on := 16, ground := Go.Ground.data }], guard := none }) (v := ?v121) rfl (by kernel_rfl) (by kernel_rfl) (by kernel_rfl) (fun _ _ _ h => h) (Or.inl ⟨by rfl, ?y121⟩) (by assumption) ?r121
              case y121 => (intro w hSw; (try dsimp only at hSw); first | (go_simp; done) | (go_simp; with_reducible rfl))
              try simp only [Act.put, List.setIfInBounds_toArray, List.set_cons_zero, List.set_cons_succ]
              refine wpAnyH_take (i := 18) (oi := { dst := some 6, op := Go.Op.assign (Go.Operand.tmp 57), type := 4, pos := "readers.go:50", after := #[{ on := 17, ground := Go.Ground.data }, { on := 16, ground := Go.Ground.chain }, { on := 0, ground := Go.Ground.phase }, { on := 1, ground := Go.Ground.phase }, { on := 2, ground := Go.Ground.phase }, { on := 3, ground := Go.Ground.phase }, { on := 4, ground := Go.Ground.phase }, { on := 5, ground := Go.Ground.phase }, { on := 6, ground := Go.Ground.phase }, { on := 7, ground := Go.Ground.phase }, { on := 8, ground := Go.Ground.phase }, { on := 9, ground := Go.Ground.phase }, { on := 10, ground := Go.Ground.phase }, { on := 11, ground := Go.Ground.phase }, { on := 12, ground := Go.Ground.phase }, { on := 13, ground := Go.Ground.phase }, { on := 14, ground := Go.Ground.phase }, { on := 15, ground := Go.Ground.phase }, { on := 16, ground := Go.Ground.phase }, { on := 17, ground := Go.Ground.phase }], guard := none }) (v := ?v122) rfl (by kernel_rfl) (by kernel_rfl) (by kernel_rfl) (fun _ _ _ h => h) (Or.inl ⟨by rfl, ?y122⟩) (by assumption) ?r122
              case y122 => (intro w hSw; (try dsimp only at hSw); first | (go_simp; done) | (go_simp; with_reducible rfl))
              try simp only [Act.put, List.setIfInBounds_toArray, List.set_cons_zero, List.set_cons_succ]
              refine wpAnyH_done (by kernel_rfl) ?_ _
              refine NoPanic.normal ?_
              go_wp2
              go_ret
              exact ⟨rfl, (below_drew1 B5.out).trans (hd8.mono B5.out.size)⟩
            exact AllReadyH.nil
          exact AllReadyH.nil
        exact AllReadyH.nil
    · rw [decide_eq_false hpi] at hin
      have c8 := fun (w : World) (hC : Kd.C (Kd.slice 5 (Kd.int .u8)) w A0 l.length l) => (spec_PartsIn.calls _ A0 c0 l _ w hC hc hin).mono (fun e w' h => (⟨h.1, h.2.below⟩ : e = .returned (.bool false) ∧ Below w.heap.size w w'))
      clear hin hb1 hl1 hl2 hpi hq1
      go_enter Tryd.func6, Tryd.ntmps6
      go_wp2_with (first
        | (go_at_call 7; go_must (refine (c7 _ hC).mono ?_; rintro e w1 ⟨rfl, hd1⟩); have hC1 := Kd.C_below hC hd1)
        | (go_at_call 8; go_must (refine (c8 _ hC1).mono ?_; rintro e w2 ⟨rfl, hd2⟩)))
      go_ret
      exact ⟨rfl, hd1.trans (hd2.mono hd1.size)⟩
end Go.Proofs.YtgbcmjbiddkldaaDoor.Given
