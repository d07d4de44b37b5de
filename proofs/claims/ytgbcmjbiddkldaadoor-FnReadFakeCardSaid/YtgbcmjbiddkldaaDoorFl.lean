/- The contract of readers.ReadFill over a parts' reader: the first bytes of all parts, as many as there is room for; the end's kind if there are fewer. -/
import Derived.Test.YtgbcmjbiddkldaaDoorRw
namespace Go.Proofs.YtgbcmjbiddkldaaDoor.Given
open Go.RowKit Go.Proofs.YtgbcmjbiddkldaaDoorW.PrintWords Go.Proofs.YtgbcmjbiddkldaaDoor.PR Go.Proofs.YtgbcmjbiddkldaaDoor.Pl
set_option linter.unusedVariables false
set_option linter.unusedSimpArgs false

theorem rdP_cat (fails : Bool) (n : Nat) (ps : List (List Int)) : (rdP fails n ps).1 ++ (rdP fails n ps).2.2.flatten = ps.flatten := by
  cases ps with
  | nil => rfl
  | cons p r =>
    simp only [rdP]
    split
    · rename_i h
      rw [List.take_of_length_le h]; simp
    · simp [← List.append_assoc]
theorem rdP_end (fails : Bool) (n : Nat) (ps : List (List Int)) : ((rdP fails n ps).2.1 = 0 ∧ ps ≠ []) ∨ (ps = [] ∧ (rdP fails n ps).2.2 = [] ∧ (rdP fails n ps).1 = [] ∧ (rdP fails n ps).2.1 = if fails then 2 else 1) := by
  cases ps with
  | nil => exact .inr ⟨rfl, rfl, rfl, rfl⟩
  | cons p r => exact .inl ⟨rfl, by simp⟩
/-- A read takes a part away, or fills its room. -/
theorem rdP_less (fails : Bool) (n : Nat) (ps : List (List Int)) (h : ps ≠ []) : (rdP fails n ps).2.2.length < ps.length ∨ (rdP fails n ps).1.length = n := by
  cases ps with
  | nil => exact absurd rfl h
  | cons p r =>
    simp only [rdP]
    split
    · left; simp
    · right; simp; omega
theorem rdP_sizes (fails : Bool) (n : Nat) (ps : List (List Int)) : (rdP fails n ps).1.length ≤ n ∧ (rdP fails n ps).2.2.length ≤ ps.length ∧ ∀ K, (∀ p ∈ ps, p.length ≤ K) → ∀ p ∈ (rdP fails n ps).2.2, p.length ≤ K := by
  cases ps with
  | nil => exact ⟨by simp [rdP], by simp [rdP], fun K h => by simp [rdP]⟩
  | cons p r =>
    simp only [rdP]
    refine ⟨by simp; omega, by split <;> simp, fun K hK => ?_⟩
    split
    · intro q hq; exact hK q (by simp [hq])
    · intro q hq
      rcases List.mem_cons.1 hq with rfl | hq
      · have := hK p (by simp); simp; omega
      · exact hK q (by simp [hq])
theorem splice_more {cur : List Value} {acc data : List Int} (hc : cur.take acc.length = byV acc) (hl : acc.length + data.length ≤ cur.length) : (splice cur acc.length (byV data)).take (acc ++ data).length = byV (acc ++ data) ∧ (splice cur acc.length (byV data)).length = cur.length := by
  constructor
  · unfold splice
    rw [hc, ← List.append_assoc, show byV (acc ++ data) = byV acc ++ byV data by simp [byV]]
    exact List.take_left' (by simp [byV_len])
  · exact length_splice _ _ _ (by rw [byV_len]; exact hl)

theorem fill_arith {fails : Bool} {N g : Nat} {acc : List Int} {ps' : List (List Int)} (hlt : acc.length < N) (hfu : ps'.length ≤ g) (hr : ps'.length ≤ 1000000) (hN : N ≤ 1000000) :
    acc.length + (rdP fails (N - acc.length) ps').1.length ≤ N ∧ (rdP fails (N - acc.length) ps').2.2.length ≤ 1000000 ∧
    (((rdP fails (N - acc.length) ps').2.1 = 0 ∧ ((acc ++ (rdP fails (N - acc.length) ps').1).length < N → (rdP fails (N - acc.length) ps').2.2.length + 1 ≤ g)) ∨ ((rdP fails (N - acc.length) ps').2.2 = [] ∧ (acc ++ (rdP fails (N - acc.length) ps').1).length < N ∧ (rdP fails (N - acc.length) ps').2.1 = if fails then 2 else 1)) ∧
    wrap64 ((acc.length : Int) + ((rdP fails (N - acc.length) ps').1.length : Int)) = ((acc.length + (rdP fails (N - acc.length) ps').1.length : Nat) : Int) := by
  have f2 := rdP_end fails (N - acc.length) ps'
  have f3 := rdP_less fails (N - acc.length) ps'
  obtain ⟨f4, f5, _⟩ := rdP_sizes fails (N - acc.length) ps'
  obtain ⟨z, hz⟩ : ∃ z, rdP fails (N - acc.length) ps' = z := ⟨_, rfl⟩
  rw [hz] at f2 f3 f4 f5 ⊢
  clear hz
  obtain ⟨d, c, q⟩ := z
  simp only at f2 f3 f4 f5 ⊢
  refine ⟨by omega, by omega, ?_, ?_⟩
  · rcases f2 with ⟨h1, h2⟩ | ⟨h1, h2, h3, h4⟩
    · refine .inl ⟨h1, fun h5 => ?_⟩
      rw [List.length_append] at h5
      rcases f3 h2 with h6 | h6
      · omega
      · omega
    · exact .inr ⟨h2, by rw [h3, List.append_nil]; exact hlt, h4⟩
  · rw [wrap64_id (by omega) (by omega)]; omega
theorem na49 (x : Addr) (w : World) : (nilAhead 222 49 (.pointer (some x)) "Read").run Tryd.prog w = .ok (some false) w := by kernel_rfl
set_option maxHeartbeats 4000000 in
set_option maxRecDepth 100000 in
theorem fill_any (M Q D N : Nat) (fails : Bool) (ps : List (List Int)) (cur : List Value) (w : World) (a : Addr) (hP : PR w M Q fails ps) (hD : w.heap[D]? = some (.cells cur.toArray 5 (0, 0))) (hcur : cur.length = N) (hN6 : N ≤ 1000000) (hMD : M ≤ D) (hM : M ≤ w.heap.size) (hL : LaidE w a M)
    (hp6 : ∀ p ∈ ps, p.length ≤ 1000000) (hr6 : ps.length ≤ 1000000) :
    Calls Tryd.prog 25 #[.iface 49 (.pointer (some ⟨Q, 0, none⟩)), .slice (some ⟨D, 0, none⟩) N N] w fun e w' => ∃ (acc : List Int) (code : Int) (v : Value) (cur' : List Value), e = .returned (.tuple #[.int .i64 (acc.length : Int), v]) ∧ ErrS a code v ∧ acc = ps.flatten.take N ∧ code = (if ps.flatten.length < N then (if fails then 2 else 1) else 0) ∧
      w'.heap[D]? = some (.cells cur'.toArray 5 (0, 0)) ∧ cur'.length = N ∧ cur'.take acc.length = byV acc ∧ Fr M D w w' := by
  have hm := m49
  have hna := na49
  obtain ⟨tk, htk⟩ : ∃ t, ps.flatten.take N = t := ⟨_, rfl⟩
  obtain ⟨cd, hcd⟩ : ∃ c : Int, (if ps.flatten.length < N then (if fails then 2 else 1) else 0) = c := ⟨_, rfl⟩
  rw [htk, hcd]
  have htk' := Lib.hid htk
  have hcd' := Lib.hid hcd
  clear htk hcd
  go_enter Tryd.func25, Tryd.ntmps25
  go_wp2
  go_loopg [4, 5] (ps.length + 1) (fun gf s4 s5 wx => ∃ (acc : List Int) (code : Int) (cur' : List Value) (ps' : List (List Int)), s4 = .int .i64 (acc.length : Int) ∧ ErrS a code s5 ∧ acc.length ≤ N ∧ PR wx M Q fails ps' ∧ wx.heap[D]? = some (.cells cur'.toArray 5 (0, 0)) ∧ cur'.length = N ∧ Hid (cur'.take acc.length = byV acc) ∧ Hid (acc ++ ps'.flatten = ps.flatten) ∧ Fr M D w wx ∧
    ((code = 0 ∧ (acc.length < N → ps'.length + 1 ≤ gf)) ∨ (ps' = [] ∧ acc.length < N ∧ code = if fails then 2 else 1)) ∧ (∀ p ∈ ps', p.length ≤ 1000000) ∧ ps'.length ≤ 1000000)
  case atStart => exact ⟨[], 0, cur, ps, rfl, .inl ⟨rfl, rfl⟩, Nat.zero_le _, hP, hD, hcur, Lib.hid (by simp [byV]), Lib.hid rfl, Fr.refl _ _ _, .inl ⟨rfl, fun _ => Nat.le_refl _⟩, hp6, hr6⟩
  case round =>
    clear hP hD hcur hp6 hr6
    obtain ⟨acc, code, cur', ps', rfl, hE, hac, hP, hD, hcl, hct, hcat, hF, hst, hp6, hr6⟩ := hrel
    have hszF := hF.size
    have hL' : LaidE wr a M := hL.below (hF.low hMD hM) hF.size
    have q1 := evA_nil
    have q2 := own_nilE
    have q3 := nil_nil
    unfold ownV at q2
    unfold evA at q1
    by_cases hlt : acc.length < N
    · have hltb : decide ((acc.length : Int) < (N : Int)) = true := decide_eq_true (by omega)
      have hltc : decide (acc.length < N) = true := decide_eq_true hlt
      rcases hst with ⟨rfl, hfu⟩ | ⟨rfl, _, hcode⟩
      · -- another read
        obtain ⟨g', rfl⟩ : ∃ g', gk = g' + 1 := ⟨gk - 1, by have := hfu hlt; omega⟩
        obtain ⟨_, rfl⟩ : True ∧ _ = Value.nilIface := ⟨trivial, by rcases hE with ⟨_, h⟩ | ⟨h, _⟩ | ⟨h, _⟩; exact h; cases h; cases h⟩
        have n0 : (0 : Int) ≤ (acc.length : Int) := by omega
        have n1 : (acc.length : Int) ≤ (N : Int) := by omega
        have n2 : ¬ N = acc.length := by omega
        have hrd := Lib.hid (pread M Q D acc.length (N - acc.length) (N - acc.length) fails ps' cur' wr.drew a (PR.drew hP) hD (by omega) (by omega) (by omega) hMD (hL'.below (fun k hk => rfl) (Nat.le_refl _)) hp6 hr6)
        obtain ⟨z, hz⟩ : ∃ z, rdP fails (N - acc.length) ps' = z := ⟨_, rfl⟩
        have f1 := rdP_cat fails (N - acc.length) ps'
        have f6 := (rdP_sizes fails (N - acc.length) ps').2.2
        have hBB := fill_arith (fails := fails) (g := g') hlt (Nat.le_of_succ_le_succ (hfu hlt)) hr6 hN6
        rw [hz] at hrd f1 f6 hBB
        have hB5 := hBB.2.2.2
        have hw1 : wrap64 ((acc.length : Int) + (z.1.length : Int)) = ((acc.length + z.1.length : Nat) : Int) := hB5
        have hw0 : IntKind.i64.wrap ((acc.length : Int) + (z.1.length : Int)) = ((acc.length + z.1.length : Nat) : Int) := (IntWalk.i64_left _).trans hw1
        obtain ⟨hB1, hB2, hB3, hB4⟩ := hBB
        have hA1 := Lib.hid hB1
        have hA2 := Lib.hid hB2
        have hA3 := Lib.hid hB3
        have G1 := Lib.hid f1
        have G6 := Lib.hid (f6 1000000 hp6)
        clear hz f1 f6 hfu hE hp6 hr6 hac hB1 hB2 hB3 hB4 hB5
        go_upto_region 3 with fail
        refine wp_region_noPanic ?_
        refine wp_region_held_drew (S := (fun _ => True)) (by kernel_rfl) ?h1 (fun hHeld => ?k1)
        case h1 => ((try dsimp only); all_goals trivial)
        refine wpAnyH_take (i := 0) (oi := { dst := some 16, op := Go.Op.move (Go.Operand.tmp 0), type := 69, pos := "readfill.go:14", after := #[], guard := none }) (v := ?v2) rfl (by kernel_rfl) (by kernel_rfl) (by kernel_rfl) (fun _ _ _ h => h) (Or.inl ⟨by rfl, ?y2⟩) (by assumption) ?r2
        case y2 => (intro w hSw; (try dsimp only at hSw); first | (go_simp; done) | (go_simp; with_reducible rfl))
        try simp only [Act.put, List.setIfInBounds_toArray, List.set_cons_zero, List.set_cons_succ]
        refine wpAnyH_take (i := 1) (oi := { dst := some 17, op := Go.Op.move (Go.Operand.tmp 1), type := 29, pos := "readfill.go:14", after := #[], guard := none }) (v := ?v3) rfl (by kernel_rfl) (by kernel_rfl) (by kernel_rfl) (fun _ _ _ h => h) (Or.inl ⟨by rfl, ?y3⟩) (by assumption) ?r3
        case y3 => (intro w hSw; (try dsimp only at hSw); first | (go_simp; done) | (go_simp; with_reducible rfl))
        try simp only [Act.put, List.setIfInBounds_toArray, List.set_cons_zero, List.set_cons_succ]
        refine wpAnyH_take (i := 2) (oi := { dst := some 18, op := Go.Op.move (Go.Operand.tmp 4), type := 3, pos := "readfill.go:14", after := #[], guard := none }) (v := ?v4) rfl (by kernel_rfl) (by kernel_rfl) (by kernel_rfl) (fun _ _ _ h => h) (Or.inl ⟨by rfl, ?y4⟩) (by assumption) ?r4
        case y4 => (intro w hSw; (try dsimp only at hSw); first | (go_simp; done) | (go_simp; with_reducible rfl))
        try simp only [Act.put, List.setIfInBounds_toArray, List.set_cons_zero, List.set_cons_succ]
        refine wpAnyH_take (i := 3) (oi := { dst := some 19, op := Go.Op.slice 29 (Go.Operand.tmp 17) (some (Go.Operand.tmp 18)) none none, type := 29, pos := "readfill.go:14", after := #[{ on := 1, ground := Go.Ground.data }, { on := 2, ground := Go.Ground.data }], guard := none }) (v := ?v5) rfl (by kernel_rfl) (by kernel_rfl) (by kernel_rfl) (fun _ _ _ h => h) (Or.inl ⟨by rfl, ?y5⟩) (by assumption) ?r5
        case y5 => (intro w hSw; (try dsimp only at hSw); first | (go_simp; done) | (go_simp; with_reducible rfl))
        try simp only [Act.put, List.setIfInBounds_toArray, List.set_cons_zero, List.set_cons_succ]
        refine wpAnyH_ready (rs := [4]) (by kernel_rfl) (by simp) ?_
        refine AllReadyH.cons (o := { dst := some 20, op := Go.Op.makeFunc (Go.Fn.method "Read") #[Go.Operand.tmp 16] #[], type := 77, pos := "readfill.go:14", after := #[{ on := 0, ground := Go.Ground.data }], guard := none }) rfl (fun K hK => ?s6) ?m6
        case m6 => exact AllReadyH.nil
        go_simp
        refine hK.out _ _ ?h6 (fun hHeld => ?k6)
        case h6 => ((try dsimp only); all_goals trivial)
        clear hK K
        try simp only [Act.put, List.setIfInBounds_toArray, List.set_cons_zero, List.set_cons_succ]
        refine wpAnyH_take (i := 5) (oi := { dst := some 21, op := Go.Op.nilCheck (Go.Operand.tmp 20), type := 77, pos := "readfill.go:14", after := #[{ on := 4, ground := Go.Ground.data }], guard := none }) (v := ?v7) rfl (by kernel_rfl) (by kernel_rfl) (by kernel_rfl) (fun _ _ _ h => h) (Or.inl ⟨by rfl, ?y7⟩) (by assumption) ?r7
        case y7 => (intro w hSw; (try dsimp only at hSw); first | (go_simp; done) | (go_simp; with_reducible rfl))
        try simp only [Act.put, List.setIfInBounds_toArray, List.set_cons_zero, List.set_cons_succ]
        refine wpAnyH_take (i := 6) (oi := { dst := some 22, op := Go.Op.move (Go.Operand.tmp 16), type := 69, pos := "readfill.go:14", after := #[{ on := 0, ground := Go.Ground.data }, { on := 4, ground := Go.Ground.data }, { on := 5, ground := Go.Ground.data }], guard := none }) (v := ?v8) rfl (by kernel_rfl) (by kernel_rfl) (by kernel_rfl) (fun _ _ _ h => h) (Or.inl ⟨by rfl, ?y8⟩) (by assumption) ?r8
        case y8 => (intro w hSw; (try dsimp only at hSw); first | (go_simp; done) | (go_simp; with_reducible rfl))
        try simp only [Act.put, List.setIfInBounds_toArray, List.set_cons_zero, List.set_cons_succ]
        refine wpAnyH_ready (rs := [7]) (by kernel_rfl) (by simp) ?_
        refine AllReadyH.cons (o := { dst := some 23, op := Go.Op.call { callee := Go.Callee.invoke (Go.Operand.tmp 22) "Read", args := #[Go.Operand.tmp 19], argTypes := #[29] }, type := 65, pos := "readfill.go:14", after := #[{ on := 6, ground := Go.Ground.data }, { on := 3, ground := Go.Ground.data }], guard := none }) rfl (fun K hK => ?s9) ?m9
        case m9 => exact AllReadyH.nil
        go_simp; go_at_call 45; refine (hrd.out).mono ?_; rintro e w2 ⟨v2, rfl, hE2, hP2, hD2, hF2⟩
        refine hK.out _ _ ?h9 (fun hHeld => ?k9)
        case h9 => ((try dsimp only); all_goals trivial)
        clear hK K
        try simp only [Act.put, List.setIfInBounds_toArray, List.set_cons_zero, List.set_cons_succ]
        refine wpAnyH_take (i := 8) (oi := { dst := some 15, op := Go.Op.move (Go.Operand.tmp 23), type := 65, pos := "readfill.go:14", after := #[{ on := 7, ground := Go.Ground.data }], guard := none }) (v := ?v10) rfl (by kernel_rfl) (by kernel_rfl) (by kernel_rfl) (fun _ _ _ h => h) (Or.inl ⟨by rfl, ?y10⟩) (by assumption) ?r10
        case y10 => (intro w hSw; (try dsimp only at hSw); first | (go_simp; done) | (go_simp; with_reducible rfl))
        try simp only [Act.put, List.setIfInBounds_toArray, List.set_cons_zero, List.set_cons_succ]
        refine wpAnyH_take (i := 9) (oi := { dst := some 24, op := Go.Op.extract (Go.Operand.tmp 15) 0, type := 3, pos := "readfill.go:14", after := #[{ on := 8, ground := Go.Ground.data }], guard := none }) (v := ?v11) rfl (by kernel_rfl) (by kernel_rfl) (by kernel_rfl) (fun _ _ _ h => h) (Or.inl ⟨by rfl, ?y11⟩) (by assumption) ?r11
        case y11 => (intro w hSw; (try dsimp only at hSw); first | (go_simp; done) | (go_simp; with_reducible rfl))
        try simp only [Act.put, List.setIfInBounds_toArray, List.set_cons_zero, List.set_cons_succ]
        refine wpAnyH_take (i := 10) (oi := { dst := some 25, op := Go.Op.extract (Go.Operand.tmp 15) 1, type := 64, pos := "readfill.go:14", after := #[{ on := 8, ground := Go.Ground.data }, { on := 11, ground := Go.Ground.gcOnly Go.Departure.lateStores }], guard := none }) (v := ?v12) rfl (by kernel_rfl) (by kernel_rfl) (by kernel_rfl) (fun _ _ _ h => h) (Or.inl ⟨by rfl, ?y12⟩) (by assumption) ?r12
        case y12 => (intro w hSw; (try dsimp only at hSw); first | (go_simp; done) | (go_simp; with_reducible rfl))
        try simp only [Act.put, List.setIfInBounds_toArray, List.set_cons_zero, List.set_cons_succ]
        refine wpAnyH_take (i := 11) (oi := { dst := some 6, op := Go.Op.assign (Go.Operand.tmp 24), type := 3, pos := "readfill.go:14", after := #[{ on := 9, ground := Go.Ground.data }, { on := 7, ground := Go.Ground.chain }, { on := 0, ground := Go.Ground.phase }, { on := 1, ground := Go.Ground.phase }, { on := 2, ground := Go.Ground.phase }, { on := 3, ground := Go.Ground.phase }, { on := 4, ground := Go.Ground.phase }, { on := 5, ground := Go.Ground.phase }, { on := 6, ground := Go.Ground.phase }, { on := 7, ground := Go.Ground.phase }, { on := 8, ground := Go.Ground.phase }, { on := 9, ground := Go.Ground.phase }, { on := 10, ground := Go.Ground.textOnly Go.Departure.lateStores }], guard := none }) (v := ?v13) rfl (by kernel_rfl) (by kernel_rfl) (by kernel_rfl) (fun _ _ _ h => h) (Or.inl ⟨by rfl, ?y13⟩) (by assumption) ?r13
        case y13 => (intro w hSw; (try dsimp only at hSw); first | (go_simp; done) | (go_simp; with_reducible rfl))
        try simp only [Act.put, List.setIfInBounds_toArray, List.set_cons_zero, List.set_cons_succ]
        refine wpAnyH_take (i := 12) (oi := { dst := some 5, op := Go.Op.assign (Go.Operand.tmp 25), type := 64, pos := "readfill.go:14", after := #[{ on := 10, ground := Go.Ground.data }, { on := 11, ground := Go.Ground.chain }, { on := 0, ground := Go.Ground.phase }, { on := 1, ground := Go.Ground.phase }, { on := 2, ground := Go.Ground.phase }, { on := 3, ground := Go.Ground.phase }, { on := 4, ground := Go.Ground.phase }, { on := 5, ground := Go.Ground.phase }, { on := 6, ground := Go.Ground.phase }, { on := 7, ground := Go.Ground.phase }, { on := 8, ground := Go.Ground.phase }, { on := 9, ground := Go.Ground.phase }, { on := 10, ground := Go.Ground.phase }, { on := 11, ground := Go.Ground.phase }], guard := none }) (v := ?v14) rfl (by kernel_rfl) (by kernel_rfl) (by kernel_rfl) (fun _ _ _ h => h) (Or.inl ⟨by rfl, ?y14⟩) (by assumption) ?r14
        case y14 => (intro w hSw; (try dsimp only at hSw); first | (go_simp; done) | (go_simp; with_reducible rfl))
        try simp only [Act.put, List.setIfInBounds_toArray, List.set_cons_zero, List.set_cons_succ]
        refine wpAnyH_done (by kernel_rfl) ?_ _
        refine NoPanic.normal ?_
        obtain ⟨s1, s2⟩ := splice_more (data := z.1) hct.out (by rw [hcl]; exact hA1.out)
        go_wp2
        go_roundg g'
        case measure => exact Nat.lt_succ_self _
        case rel => exact ⟨acc ++ z.1, z.2.1, splice cur' acc.length (byV z.1), z.2.2, by rw [List.length_append]; rfl, hE2, by rw [List.length_append]; exact hA1.out, hP2, hD2, s2.trans hcl, Lib.hid s1, Lib.hid (by rw [List.append_assoc, G1.out]; exact hcat.out), hF.trans ⟨hF2.os, hF2.tape, hF2.output, hF2.size, hF2.block⟩, hA3.out, G6.out, hA2.out⟩
      · -- at the end
        have hc0 : code ≠ 0 := by rw [hcode]; cases fails <;> decide
        have hfin : Hid (acc = tk ∧ code = cd) := Lib.hid (by
          rw [← htk'.out, ← hcd'.out]
          have := hcat.out
          simp only [List.flatten_nil, List.append_nil] at this
          rw [← this]
          exact ⟨(List.take_of_length_le (by omega)).symm, by rw [if_pos hlt]; exact hcode⟩)
        have hE' := Lib.hid hE
        rcases hE with ⟨h, _⟩ | ⟨_, rfl⟩ | ⟨_, rfl⟩
        · exact absurd h hc0
        · unfold evA
          clear hcat
          go_wp2
          go_ret2
          first | exact ⟨acc, code, _, cur', rfl, hE'.out, hfin.out.1, hfin.out.2, hD, hcl, hct.out, hF⟩ | exact ⟨acc, code, _, rfl, hE'.out, hfin.out.1, hfin.out.2, cur', hD, hcl, hct.out, hF⟩
        · unfold ownV
          clear hcat
          go_wp2
          go_ret2
          first | exact ⟨acc, code, _, cur', rfl, hE'.out, hfin.out.1, hfin.out.2, hD, hcl, hct.out, hF⟩ | exact ⟨acc, code, _, rfl, hE'.out, hfin.out.1, hfin.out.2, cur', hD, hcl, hct.out, hF⟩
    · have hltb : decide ((acc.length : Int) < (N : Int)) = false := decide_eq_false (by omega)
      have hltc : decide (acc.length < N) = false := decide_eq_false hlt
      have haN : acc.length = N := by omega
      rcases hst with ⟨rfl, _⟩ | ⟨_, h, _⟩
      · obtain ⟨_, rfl⟩ : True ∧ _ = Value.nilIface := ⟨trivial, by rcases hE with ⟨_, h⟩ | ⟨h, _⟩ | ⟨h, _⟩; exact h; cases h; cases h⟩
        have hfin : Hid (acc = tk ∧ (0 : Int) = cd) := Lib.hid (by
          rw [← htk'.out, ← hcd'.out]
          rw [← hcat.out]
          exact ⟨(List.take_left' haN).symm, by rw [if_neg (by rw [List.length_append]; omega)]⟩)
        have hlt' : ¬ ((acc.length : Int) < (N : Int)) := by omega
        have haN' := Lib.hid haN
        clear hcat haN
        go_wp2
        go_ret2
        first | exact ⟨acc, 0, _, cur', rfl, .inl ⟨rfl, rfl⟩, hfin.out.1, hfin.out.2, hD, hcl, hct.out, hF⟩ | exact ⟨acc, 0, _, rfl, .inl ⟨rfl, rfl⟩, hfin.out.1, hfin.out.2, cur', hD, hcl, hct.out, hF⟩
      · exact absurd h hlt
end Go.Proofs.YtgbcmjbiddkldaaDoor.Given
