/- The walk of laws.FnNameAny. -/
import Derived.Test.YtonmnpmklkbioaaDoorL9
import Derived.Test.YtonmnpmklkbioaaDoorGm
namespace Go.Proofs.YtonmnpmklkbioaaDoor.Given
open Go.RowKit Go.Proofs.YtonmnpmklkbioaaDoorW.PrintWords Go.Proofs.YtonmnpmklkbioaaDoorW.PrintLast Go.Proofs.YtonmnpmklkbioaaDoorW.PrintMore Go.Proofs.YtonmnpmklkbioaaDoor.PN
open Go.Proofs.YtonmnpmklkbioaaDoor.Sy (tl strB tl_size strB_tl tl_strB tkm tkm_ok hasB ErrOk)
set_option linter.unusedVariables false
set_option linter.unusedSimpArgs false
theorem d43 (m : Int) (w : World) : (method 264 43 (.int .u64 m) "Decode").run Tryd.prog w = .ok (44, .int .u64 m) w := by kernel_rfl
theorem m100 (w : World) : (method 264 100 (.agg #[]) "Encode").run Tryd.prog w = .ok (140, .agg #[]) w := by kernel_rfl
theorem d100 (w : World) : (method 264 100 (.agg #[]) "Decode").run Tryd.prog w = .ok (139, .agg #[]) w := by kernel_rfl
theorem na100 (w : World) : (nilAhead 264 100 (.agg #[]) "Encode").run Tryd.prog w = .ok (some false) w := by kernel_rfl
theorem ne100 (w : World) : (binOp .eql 58 (.iface 100 (.agg #[])) (.iface 43 (.int .u64 33652738))).run Tryd.prog w = .ok (.bool false) w := by kernel_rfl
theorem id140 (s : ByteArray) (w : World) : Calls Tryd.prog 140 #[.agg #[], .string s] w fun e w' => e = .returned (.string s) ∧ Below w.heap.size w w' := by
  go_enter Tryd.func140, Tryd.ntmps140
  go_wp2
  go_ret
  exact ⟨rfl, (Below.refl _ w).alloc (Nat.le_refl _) _⟩
theorem id139 (s : ByteArray) (w : World) : Calls Tryd.prog 139 #[.agg #[], .string s] w fun e w' => e = .returned (.string s) ∧ Below w.heap.size w w' := by
  go_enter Tryd.func139, Tryd.ntmps139
  go_wp2
  go_ret
  exact ⟨rfl, (Below.refl _ w).alloc (Nat.le_refl _) _⟩
theorem id71 (w : World) : Calls Tryd.prog 71 #[] w fun e w' => e = .returned (.iface 100 (.agg #[])) ∧ w' = w := by
  go_enter Tryd.func71, Tryd.ntmps71
  go_wp2
  go_ret
  exact ⟨rfl, rfl⟩
theorem results_tmp4 {fn : Func} {t u v x : Tmp} (h : fn.results = #[.tmp t, .tmp u, .tmp v, .tmp x]) (tmps : Array Value) (P : Program) (w : World) :
    (results fn tmps).run P w = .ok (.tuple #[tmps.getD t undef, tmps.getD u undef, tmps.getD v undef, tmps.getD x undef]) w := by
  simp [results, h]
/-- The encoder. -/
def encV (b : Bool) (m : Int) : Value := if b = true then .iface 100 (.agg #[]) else .iface 43 (.int .u64 m)
theorem any48 (b : Bool) (m : Int) (w : World) : Calls Tryd.prog 48 #[.bool b, .int .u64 m] w fun e w' => e = .returned (encV b m) ∧ w' = w := by
  cases b with
  | true =>
    go_enter Tryd.func48, Tryd.ntmps48
    go_wp2_with (go_at_call 71; refine (id71 _).mono ?_; rintro e w1 ⟨rfl, rfl⟩)
    go_ret
    exact ⟨rfl, rfl⟩
  | false =>
    go_enter Tryd.func48, Tryd.ntmps48
    go_wp2
    go_ret
    exact ⟨rfl, rfl⟩
/-- The name to Standard's writing. -/
def toN (m : Int) (s : ByteArray) : ByteArray := if m = 33652738 then s else encN 33652738 (decN m s)
set_option maxHeartbeats 2000000 in
set_option maxRecDepth 100000 in
theorem to26 (m : Int) (s : ByteArray) (w : World) (hs : s.size ≤ 100000000) :
    Calls Tryd.prog 26 #[.int .u64 m, .string s] w fun e w' => e = .returned (.string (toN m s)) ∧ Below w.heap.size w w' := by
  have c25 := fun W => dec25 m s W (by omega)
  have c17 := fun W => enc17 33652738 (decN m s) W (by have := decN_size m s; omega)
  by_cases hm : m = 33652738
  · have e : toN m s = s := by unfold toN; rw [if_pos hm]
    rw [e]
    subst hm
    clear c25 c17
    go_enter Tryd.func26, Tryd.ntmps26
    go_wp2
    go_ret
    exact ⟨rfl, Below.refl _ _⟩
  · have e : toN m s = encN 33652738 (decN m s) := by unfold toN; rw [if_neg hm]
    have hm1 : (m == 33652738) = false := by rw [beq_eq_false_iff_ne]; exact hm
    rw [e]
    obtain ⟨t, ht⟩ : ∃ t, decN m s = t := ⟨_, rfl⟩
    rw [ht] at c25 c17 ⊢
    obtain ⟨u, hu⟩ : ∃ u, encN 33652738 t = u := ⟨_, rfl⟩
    rw [hu] at c17 ⊢
    clear ht hu e
    go_enter Tryd.func26, Tryd.ntmps26
    go_wp2_with (first | (go_at_call 25; refine (c25 _).mono ?_; rintro e w1 ⟨rfl, h1⟩; clear c25) | (go_at_call 17; refine (c17 _).mono ?_; rintro e w2 ⟨rfl, h2⟩; clear c17))
    go_ret
    exact ⟨rfl, h1.trans (h2.mono h1.size)⟩
set_option maxHeartbeats 2000000 in
set_option maxRecDepth 100000 in
theorem to50 (m : Int) (s : ByteArray) (w : World) (hs : s.size ≤ 100000000) (hW : Wo w) :
    Calls Tryd.prog 50 #[.iface 43 (.int .u64 m), .string s] w fun e w' => e = .returned (.string (toN m s)) ∧ Below w.heap.size w w' := by
  have heq := fun (W : World) => Lib.run_eql_iface_int (P := Tryd.prog) W (t := 58) (tx := 43) (k := .u64) m 33652738 Tryd.underlying58 (by kernel_rfl) Tryd.underlying43
  by_cases hm : m = 33652738
  · have e : toN m s = s := by unfold toN; rw [if_pos hm]
    rw [e]
    subst hm
    rw [show ((33652738 : Int) == 33652738) = true from rfl] at heq
    go_enter Tryd.func50, Tryd.ntmps50
    go_wp2
    go_ret
    exact ⟨rfl, Below.refl _ _⟩
  · have e : toN m s = encN 33652738 (decN m s) := by unfold toN; rw [if_neg hm]
    have hm1 : (m == 33652738) = false := by rw [beq_eq_false_iff_ne]; exact hm
    rw [e]
    rw [hm1] at heq
    have c44 := fun W (h : Wo W) => Sy.calls44 m s W (by omega) h.tabs h.err
    have c35 := fun W (h : Wo W) => Sy.calls35 33652738 (decN m s) W (by have := decN_size m s; omega) h.tabs
    rw [decO_is] at c44
    rw [encO_is] at c35
    obtain ⟨t, ht⟩ : ∃ t, decN m s = t := ⟨_, rfl⟩
    rw [ht] at c44 c35 ⊢
    obtain ⟨u, hu⟩ : ∃ u, encN 33652738 t = u := ⟨_, rfl⟩
    rw [hu] at c35 ⊢
    have hdd := d43 m
    clear ht hu e hm
    go_enter Tryd.func50, Tryd.ntmps50
    go_wp2_with (first | (go_at_call 44; refine (c44 _ hW).mono ?_; rintro e w1 ⟨rfl, h1⟩; have g1 := hW.below h1; clear c44) | (go_at_call 35; refine (c35 _ g1).mono ?_; rintro e w2 ⟨rfl, h2⟩; clear c35))
    go_ret
    exact ⟨rfl, h1.trans (h2.mono h1.size)⟩
set_option maxHeartbeats 2000000 in
set_option maxRecDepth 100000 in
theorem to50i (s : ByteArray) (w : World) (hs : s.size ≤ 100000000) (hW : Wo w) :
    Calls Tryd.prog 50 #[.iface 100 (.agg #[]), .string s] w fun e w' => e = .returned (.string (encN 33652738 s)) ∧ Below w.heap.size w w' := by
  have heq := ne100
  have hdd := d100
  have c35 := fun W (h : Wo W) => Sy.calls35 33652738 s W (by omega) h.tabs
  rw [encO_is] at c35
  obtain ⟨u, hu⟩ : ∃ u, encN 33652738 s = u := ⟨_, rfl⟩
  rw [hu] at c35 ⊢
  clear hu
  go_enter Tryd.func50, Tryd.ntmps50
  go_wp2_with (first | (go_at_call 139; refine (id139 _ _).mono ?_; rintro e w1 ⟨rfl, h1⟩; have g1 := hW.below h1) | (go_at_call 35; refine (c35 _ g1).mono ?_; rintro e w2 ⟨rfl, h2⟩; clear c35))
  go_ret
  exact ⟨rfl, h1.trans (h2.mono h1.size)⟩
set_option maxHeartbeats 2000000 in
set_option maxRecDepth 100000 in
theorem from49i (s : ByteArray) (w : World) (hs : s.size ≤ 100000000) (hW : Wo w) :
    Calls Tryd.prog 49 #[.iface 100 (.agg #[]), .string s] w fun e w' => e = .returned (.string (decN 33652738 s)) ∧ Below w.heap.size w w' := by
  have heq := ne100
  have hmm := m100
  have hna := na100
  have hd1 : Below w.heap.size w w.drew := below_drewN' (Below.refl _ _) 1
  have hWd : Wo w.drew := hW.below hd1
  have c44 := fun W (h : Wo W) => Sy.calls44 33652738 s W (by omega) h.tabs h.err
  rw [decO_is] at c44
  obtain ⟨t, ht⟩ : ∃ t, decN 33652738 s = t := ⟨_, rfl⟩
  rw [ht] at c44 ⊢
  clear ht
  go_enter Tryd.func49, Tryd.ntmps49
  go_upto_region 3 with fail
  refine wp_region_noPanic ?_
  refine wp_region_held_drew (S := (fun _ => True)) (by kernel_rfl) ?h1 (fun hHeld => ?k1)
  case h1 => ((try dsimp only); all_goals trivial)
  refine wpAnyH_take (i := 0) (oi := { dst := some 9, op := Go.Op.move (Go.Operand.tmp 0), type := 58, pos := "encoder.go:1315", after := #[], guard := none }) (v := ?v2) rfl (by kernel_rfl) (by kernel_rfl) (by kernel_rfl) (fun _ _ _ h => h) (Or.inl ⟨by rfl, ?y2⟩) (by assumption) ?r2
  case y2 => (intro w hSw; (try dsimp only at hSw); first | (go_simp; done) | (go_simp; with_reducible rfl))
  try simp only [Act.put, List.setIfInBounds_toArray, List.set_cons_zero, List.set_cons_succ]
  refine wpAnyH_take (i := 1) (oi := { dst := some 10, op := Go.Op.move (Go.Operand.tmp 1), type := 9, pos := "encoder.go:1315", after := #[], guard := none }) (v := ?v3) rfl (by kernel_rfl) (by kernel_rfl) (by kernel_rfl) (fun _ _ _ h => h) (Or.inl ⟨by rfl, ?y3⟩) (by assumption) ?r3
  case y3 => (intro w hSw; (try dsimp only at hSw); first | (go_simp; done) | (go_simp; with_reducible rfl))
  try simp only [Act.put, List.setIfInBounds_toArray, List.set_cons_zero, List.set_cons_succ]
  refine wpAnyH_take (i := 3) (oi := { dst := some 12, op := Go.Op.makeFunc (Go.Fn.method "Encode") #[Go.Operand.tmp 9] #[], type := 38, pos := "encoder.go:1315", after := #[{ on := 0, ground := Go.Ground.data }], guard := none }) (v := ?v4) rfl (by kernel_rfl) (by kernel_rfl) (by kernel_rfl) (fun _ _ _ h => h) (Or.inl ⟨by rfl, ?y4⟩) (by assumption) ?r4
  case y4 => (intro w hSw; (try dsimp only at hSw); first | (go_simp; done) | (go_simp; with_reducible rfl))
  try simp only [Act.put, List.setIfInBounds_toArray, List.set_cons_zero, List.set_cons_succ]
  refine wpAnyH_take (i := 4) (oi := { dst := some 13, op := Go.Op.nilCheck (Go.Operand.tmp 12), type := 38, pos := "encoder.go:1315", after := #[{ on := 3, ground := Go.Ground.data }], guard := none }) (v := ?v5) rfl (by kernel_rfl) (by kernel_rfl) (by kernel_rfl) (fun _ _ _ h => h) (Or.inl ⟨by rfl, ?y5⟩) (by assumption) ?r5
  case y5 => (intro w hSw; (try dsimp only at hSw); first | (go_simp; done) | (go_simp; with_reducible rfl))
  try simp only [Act.put, List.setIfInBounds_toArray, List.set_cons_zero, List.set_cons_succ]
  refine wpAnyH_take (i := 5) (oi := { dst := some 14, op := Go.Op.move (Go.Operand.tmp 9), type := 58, pos := "encoder.go:1315", after := #[{ on := 0, ground := Go.Ground.data }, { on := 3, ground := Go.Ground.data }, { on := 4, ground := Go.Ground.data }], guard := none }) (v := ?v6) rfl (by kernel_rfl) (by kernel_rfl) (by kernel_rfl) (fun _ _ _ h => h) (Or.inl ⟨by rfl, ?y6⟩) (by assumption) ?r6
  case y6 => (intro w hSw; (try dsimp only at hSw); first | (go_simp; done) | (go_simp; with_reducible rfl))
  try simp only [Act.put, List.setIfInBounds_toArray, List.set_cons_zero, List.set_cons_succ]
  refine wpAnyH_ready (rs := [2]) (by kernel_rfl) (by simp) ?_
  refine AllReadyH.cons (o := { dst := some 11, op := Go.Op.call { callee := Go.Callee.value (Go.Operand.func 44), args := #[Go.Operand.const (Go.Value.int Go.IntKind.u64 33652738), Go.Operand.tmp 10], argTypes := #[43, 9] }, type := 9, pos := "encoder.go:1315", after := #[{ on := 1, ground := Go.Ground.data }], guard := none }) rfl (fun K hK => ?s7) ?m7
  case m7 => exact AllReadyH.nil
  go_simp; go_at_call 44; refine (c44 _ hWd).mono ?_; rintro e w1 ⟨rfl, h1⟩; have g1 := hWd.below h1
  refine hK.out _ _ ?h7 (fun hHeld => ?k7)
  case h7 => ((try dsimp only); all_goals trivial)
  clear hK K
  try simp only [Act.put, List.setIfInBounds_toArray, List.set_cons_zero, List.set_cons_succ]
  refine wpAnyH_ready (rs := [6]) (by kernel_rfl) (by simp) ?_
  refine AllReadyH.cons (o := { dst := some 15, op := Go.Op.call { callee := Go.Callee.invoke (Go.Operand.tmp 14) "Encode", args := #[Go.Operand.tmp 11], argTypes := #[9] }, type := 9, pos := "encoder.go:1315", after := #[{ on := 5, ground := Go.Ground.data }, { on := 2, ground := Go.Ground.data }, { on := 2, ground := Go.Ground.chain }], guard := none }) rfl (fun K hK => ?s8) ?m8
  case m8 => exact AllReadyH.nil
  go_simp; go_at_call 140; refine (id140 _ _).mono ?_; rintro e w2 ⟨rfl, h2⟩
  refine hK.out _ _ ?h8 (fun hHeld => ?k8)
  case h8 => ((try dsimp only); all_goals trivial)
  clear hK K
  try simp only [Act.put, List.setIfInBounds_toArray, List.set_cons_zero, List.set_cons_succ]
  refine wpAnyH_take (i := 7) (oi := { dst := some 4, op := Go.Op.assign (Go.Operand.tmp 15), type := 9, pos := "encoder.go:1315", after := #[{ on := 6, ground := Go.Ground.data }, { on := 6, ground := Go.Ground.chain }, { on := 0, ground := Go.Ground.phase }, { on := 1, ground := Go.Ground.phase }, { on := 2, ground := Go.Ground.phase }, { on := 3, ground := Go.Ground.phase }, { on := 4, ground := Go.Ground.phase }, { on := 5, ground := Go.Ground.phase }, { on := 6, ground := Go.Ground.phase }], guard := none }) (v := ?v9) rfl (by kernel_rfl) (by kernel_rfl) (by kernel_rfl) (fun _ _ _ h => h) (Or.inl ⟨by rfl, ?y9⟩) (by assumption) ?r9
  case y9 => (intro w hSw; (try dsimp only at hSw); first | (go_simp; done) | (go_simp; with_reducible rfl))
  try simp only [Act.put, List.setIfInBounds_toArray, List.set_cons_zero, List.set_cons_succ]
  refine wpAnyH_done (by kernel_rfl) ?_ _
  refine NoPanic.normal ?_
  go_wp2
  go_ret
  have k1 := hd1.trans (h1.mono hd1.size)
  exact ⟨rfl, k1.trans (h2.mono k1.size)⟩
set_option maxHeartbeats 4000000 in
set_option maxRecDepth 100000 in
theorem any24 (m : Int) (s : ByteArray) (w : World) (hs : s.size ≤ 100000000) (hW : Wo w) :
    Calls Tryd.prog 24 #[.bool false, .int .u64 m, .string s] w fun e w' => e = .returned (.tuple #[.string (encN m s), .string (decN m s), .string (fromN m s), .string (toN m s)]) ∧ Below w.heap.size w w' := by
  have c48 := any48 false m
  unfold encV at c48
  rw [if_neg (by decide)] at c48
  have c35 := fun W (h : Wo W) => Sy.calls35 m s W (by omega) h.tabs
  have c44 := fun W (h : Wo W) => Sy.calls44 m s W (by omega) h.tabs h.err
  rw [encO_is] at c35
  rw [decO_is] at c44
  have c49 := fun W (h : Wo W) => from49 m s W hs h
  have c50 := fun W (h : Wo W) => to50 m s W hs h
  have hmm := m43 m
  have hdd := d43 m
  obtain ⟨x1, hx1⟩ : ∃ t, encN m s = t := ⟨_, rfl⟩
  obtain ⟨x2, hx2⟩ : ∃ t, decN m s = t := ⟨_, rfl⟩
  obtain ⟨x3, hx3⟩ : ∃ t, fromN m s = t := ⟨_, rfl⟩
  obtain ⟨x4, hx4⟩ : ∃ t, toN m s = t := ⟨_, rfl⟩
  rw [hx1] at c35 ⊢
  rw [hx2] at c44 ⊢
  rw [hx3] at c49 ⊢
  rw [hx4] at c50 ⊢
  clear hx1 hx2 hx3 hx4
  go_enter Tryd.func24, Tryd.ntmps24
  go_wp2_with (first | (go_at_call 48; refine (c48 _).mono ?_; rintro e w0 ⟨rfl, rfl⟩; clear c48) | (go_at_call 35; refine (c35 _ hW).mono ?_; rintro e w1 ⟨rfl, h1⟩; have g1 := hW.below h1; clear c35) | (go_at_call 44; refine (c44 _ g1).mono ?_; rintro e w2 ⟨rfl, h2⟩; have g2 := g1.below h2; clear c44) | (go_at_call 49; refine (c49 _ g2).mono ?_; rintro e w3 ⟨rfl, h3⟩; have g3 := g2.below h3; clear c49) | (go_at_call 50; refine (c50 _ g3).mono ?_; rintro e w4 ⟨rfl, h4⟩; clear c50))
  refine bodyPost_ret (results_tmp4 rfl _ _ _) rfl ?_
  have k2 := h1.trans (h2.mono h1.size)
  have k3 := k2.trans (h3.mono k2.size)
  exact ⟨rfl, k3.trans (h4.mono k3.size)⟩
set_option maxHeartbeats 4000000 in
set_option maxRecDepth 100000 in
theorem any24i (m : Int) (s : ByteArray) (w : World) (hs : s.size ≤ 100000000) (hW : Wo w) :
    Calls Tryd.prog 24 #[.bool true, .int .u64 m, .string s] w fun e w' => e = .returned (.tuple #[.string s, .string s, .string (decN 33652738 s), .string (encN 33652738 s)]) ∧ Below w.heap.size w w' := by
  have c48 := any48 true m
  unfold encV at c48
  rw [if_pos rfl] at c48
  have c49 := fun W (h : Wo W) => from49i s W hs h
  have c50 := fun W (h : Wo W) => to50i s W hs h
  have hmm := m100
  have hdd := d100
  obtain ⟨x3, hx3⟩ : ∃ t, decN 33652738 s = t := ⟨_, rfl⟩
  obtain ⟨x4, hx4⟩ : ∃ t, encN 33652738 s = t := ⟨_, rfl⟩
  rw [hx3] at c49 ⊢
  rw [hx4] at c50 ⊢
  clear hx3 hx4
  go_enter Tryd.func24, Tryd.ntmps24
  go_wp2_with (first | (go_at_call 48; refine (c48 _).mono ?_; rintro e w0 ⟨rfl, rfl⟩; clear c48) | (go_at_call 140; refine (id140 _ _).mono ?_; rintro e w1 ⟨rfl, h1⟩; have g1 := hW.below h1) | (go_at_call 139; refine (id139 _ _).mono ?_; rintro e w2 ⟨rfl, h2⟩; have g2 := g1.below h2) | (go_at_call 49; refine (c49 _ g2).mono ?_; rintro e w3 ⟨rfl, h3⟩; have g3 := g2.below h3; clear c49) | (go_at_call 50; refine (c50 _ g3).mono ?_; rintro e w4 ⟨rfl, h4⟩; clear c50))
  refine bodyPost_ret (results_tmp4 rfl _ _ _) rfl ?_
  have k2 := h1.trans (h2.mono h1.size)
  have k3 := k2.trans (h3.mono k2.size)
  exact ⟨rfl, k3.trans (h4.mono k3.size)⟩
set_option maxHeartbeats 4000000 in
set_option maxRecDepth 100000 in
theorem law10 (b0 : Bool) (m : Int) (s : ByteArray) (w : World) (hW : Wo w) : Calls Tryd.prog 10 #[.bool b0, .int .u64 m, .string s] w fun e w' => e = .returned (.bool true) ∧ Below w.heap.size w w' := by
  by_cases hs : s.size ≤ 2147483647
  · have hs1 : ((s.size : Int) > 2147483647) = False := by simp; omega
    have c16 := fun w => short_cell s w hs
    obtain ⟨b, hb⟩ : ∃ b, decide ((s.size : Int) ≤ 65536) = b := ⟨_, rfl⟩
    rw [hb] at c16
    cases b with
    | false =>
      clear hb hs
      go_enter Tryd.func10, Tryd.ntmps10
      go_wp2_with (go_at_call 16; refine (c16 _).mono ?_; rintro e w1 ⟨rfl, h1⟩; clear c16)
      go_ret
      exact ⟨rfl, h1⟩
    | true =>
      have hsz : (s.size : Int) ≤ 65536 := of_decide_eq_true hb
      have c15 := fun W (h : Wo W) => enc15 m ⟨#[120]⟩ W (by decide) h.tabs
      rw [enc_letter m 120 (by decide) (by decide)] at c15
      cases b0 with
      | true =>
        have c24 := fun W (h : Wo W) => any24i m s W (by omega) h
        have c25 := fun W => dec25 33652738 s W (by omega)
        have c17 := fun W => enc17 33652738 s W (by omega)
        obtain ⟨x3, hx3⟩ : ∃ t, decN 33652738 s = t := ⟨_, rfl⟩
        obtain ⟨x4, hx4⟩ : ∃ t, encN 33652738 s = t := ⟨_, rfl⟩
        rw [hx3] at c24 c25
        rw [hx4] at c24 c17
        clear hb hs hsz hx3 hx4
        go_enter Tryd.func10, Tryd.ntmps10
        go_wp2_with (first | (go_at_call 16; refine (c16 _).mono ?_; rintro e w1 ⟨rfl, h1⟩; have g1 := hW.below h1; clear c16) | (go_at_call 24; refine (c24 _ g1).mono ?_; rintro e w2 ⟨rfl, h2⟩; have g2 := g1.below h2; clear c24) | (go_at_call 25; refine (c25 _).mono ?_; rintro e w3 ⟨rfl, h3⟩; have g3 := g2.below h3; clear c25) | (go_at_call 17; refine (c17 _).mono ?_; rintro e w4 ⟨rfl, h4⟩; have g4 := g3.below h4; clear c17) | (go_at_call 15; refine (c15 _ g4).mono ?_; rintro e w5 ⟨rfl, h5⟩; clear c15))
        go_ret
        have k2 := h1.trans (h2.mono h1.size)
        have k3 := k2.trans (h3.mono k2.size)
        have k4 := k3.trans (h4.mono k3.size)
        exact ⟨rfl, k4.trans (h5.mono k4.size)⟩
      | false =>
        have c24 := fun W (h : Wo W) => any24 m s W (by omega) h
        have c25 := fun W => dec25 m s W (by omega)
        have c17 := fun W => enc17 m s W (by omega)
        have c23 := fun W => from23 m s W (by omega)
        have c26 := fun W => to26 m s W (by omega)
        obtain ⟨x1, hx1⟩ : ∃ t, encN m s = t := ⟨_, rfl⟩
        obtain ⟨x2, hx2⟩ : ∃ t, decN m s = t := ⟨_, rfl⟩
        obtain ⟨x3, hx3⟩ : ∃ t, fromN m s = t := ⟨_, rfl⟩
        obtain ⟨x4, hx4⟩ : ∃ t, toN m s = t := ⟨_, rfl⟩
        rw [hx1] at c24 c17
        rw [hx2] at c24 c25
        rw [hx3] at c24 c23
        rw [hx4] at c24 c26
        clear hb hs hsz hx1 hx2 hx3 hx4
        go_enter Tryd.func10, Tryd.ntmps10
        go_wp2_with (first | (go_at_call 16; refine (c16 _).mono ?_; rintro e w1 ⟨rfl, h1⟩; have g1 := hW.below h1; clear c16) | (go_at_call 24; refine (c24 _ g1).mono ?_; rintro e w2 ⟨rfl, h2⟩; have g2 := g1.below h2; clear c24) | (go_at_call 17; refine (c17 _).mono ?_; rintro e w3 ⟨rfl, h3⟩; have g3 := g2.below h3; clear c17) | (go_at_call 25; refine (c25 _).mono ?_; rintro e w4 ⟨rfl, h4⟩; have g4 := g3.below h4; clear c25) | (go_at_call 23; refine (c23 _).mono ?_; rintro e w5 ⟨rfl, h5⟩; have g5 := g4.below h5; clear c23) | (go_at_call 26; refine (c26 _).mono ?_; rintro e w6 ⟨rfl, h6⟩; have g6 := g5.below h6; clear c26) | (go_at_call 15; refine (c15 _ g6).mono ?_; rintro e w7 ⟨rfl, h7⟩; clear c15))
        go_ret
        have k2 := h1.trans (h2.mono h1.size)
        have k3 := k2.trans (h3.mono k2.size)
        have k4 := k3.trans (h4.mono k3.size)
        have k5 := k4.trans (h5.mono k4.size)
        have k6 := k5.trans (h6.mono k5.size)
        exact ⟨rfl, k6.trans (h7.mono k6.size)⟩
  · have hs1 : ((s.size : Int) > 2147483647) = True := by simp; omega
    go_enter Tryd.func10, Tryd.ntmps10
    go_wp2
    go_ret
    exact ⟨rfl, Below.refl _ w⟩
end Go.Proofs.YtonmnpmklkbioaaDoor.Given
