/- The contracts of RepeatableReader's Read and Seek over a parts' reader. Up to 1,000,000 bytes that are kept. -/
import Derived.Test.YtgbcmjbiddkldaaDoorPw
import Derived.Test.YtgbcmjbiddkldaaDoorPl
namespace Go.Proofs.YtgbcmjbiddkldaaDoor.Given
open Go.RowKit Go.Proofs.YtgbcmjbiddkldaaDoorW.PrintWords Go.Proofs.YtgbcmjbiddkldaaDoor.PR Go.Proofs.YtgbcmjbiddkldaaDoor.Pl
set_option linter.unusedVariables false
set_option linter.unusedSimpArgs false

theorem pread (M Q D off n c : Nat) (fails : Bool) (ps : List (List Int)) (cur : List Value) (w : World) (a : Addr) (hP : PR w M Q fails ps) (hD : w.heap[D]? = some (.cells cur.toArray 5 (0, 0))) (hn : 1 ≤ n) (hn6 : n ≤ 1000000) (hfit : off + n ≤ cur.length) (hMD : M ≤ D) (hL : LaidE w a M)
    (hp6 : ∀ p ∈ ps, p.length ≤ 1000000) (hr6 : ps.length ≤ 1000000) :
    Calls Tryd.prog 45 #[.pointer (some ⟨Q, 0, none⟩), .slice (some ⟨D, off, none⟩) n c] w fun e w' => ∃ v, e = .returned (.tuple #[.int .i64 ((rdP fails n ps).1.length : Int), v]) ∧ ErrS a (rdP fails n ps).2.1 v ∧ PR w' M Q fails (rdP fails n ps).2.2 ∧
      w'.heap[D]? = some (.cells (splice cur off (byV (rdP fails n ps).1)).toArray 5 (0, 0)) ∧ Fr M D w w' := by
  cases ps with
  | nil => exact pread_end M Q D off n c fails cur w a hP hD hL
  | cons p r =>
    refine (pread_part M Q D off n c fails p r cur w a hP hD hn hn6 hfit hMD hL (hp6 p (by simp)) (by simp at hr6; omega)).mono ?_
    rintro e w' ⟨rfl, h1, h2, h3⟩
    exact ⟨_, rfl, .inl ⟨rfl, rfl⟩, h1, h2, h3⟩

theorem m49 (x : Option Addr) (w : World) : (method 222 49 (.pointer x) "Read").run Tryd.prog w = .ok (45, .pointer x) w := by kernel_rfl
theorem m53 (x : Option Addr) (w : World) : (method 222 53 (.pointer x) "Read").run Tryd.prog w = .ok (46, .pointer x) w := by kernel_rfl
theorem m53s (x : Option Addr) (w : World) : (method 222 53 (.pointer x) "Seek").run Tryd.prog w = .ok (47, .pointer x) w := by kernel_rfl
theorem m57 (x : Option Addr) (w : World) : (method 222 57 (.pointer x) "Read").run Tryd.prog w = .ok (49, .pointer x) w := by kernel_rfl
theorem m86 (x : Option Addr) (w : World) : (method 222 86 (.pointer x) "Read").run Tryd.prog w = .ok (50, .pointer x) w := by kernel_rfl
theorem m86s (x : Option Addr) (w : World) : (method 222 86 (.pointer x) "Seek").run Tryd.prog w = .ok (51, .pointer x) w := by kernel_rfl
theorem step_copy_all {P : Program} {w : World} {ops : Array Oper} {o : Oper} {a : Act} {K : Act → World → Prop} {Q : Exit → Act → World → Prop} {E : Prop} (hgd : o.guard = none) (d s : Operand) (dT sT : TypeId)
    (ho : o.op = .call { callee := .builtin .copy, args := #[d, s], argTypes := #[dT, sT] }) (elem : TypeId) (hu : P.underlying dT = some (.slice elem)) (hsz : (P.info? elem).map (·.size) = some 1)
    (A0 : Option Addr) (g off dLen dCap sLen sCap : Nat) (hd : a.eval d = .slice (some ⟨g, off, none⟩) dLen dCap) (hs : a.eval s = .slice A0 sLen sCap)
    (cur : List Value) (t : TypeId) (hg : w.heap[g]? = some (.cells cur.toArray t (0, 0))) (cs : List Value) (k : Nat) (hk : cs.length = k) (hn : k = Nat.min sLen dLen)
    (hsrc : ∀ j v, cs[j]? = some v → ∃ ad, A0 = some ad ∧ w.cell? (ad.add j) = some v)
    (hfit : off + k ≤ cur.length) (h1 : ∀ v ∈ cs, v.oneCell' = true)
    (h : ∀ w', Hid (w'.heap[g]? = some (.cells (splice cur off cs).toArray t (0, 0))) → Same g w w' → K (a.put o.dst (.int .i64 (k : Int))) w') :
    if Region.wanted o (yielded ops a.tmps) = true then Oper.wp P o a w K Q else E := by
  have hw : Region.wanted o (yielded ops a.tmps) = true := by simp [Region.wanted, hgd]
  rw [if_pos hw]
  subst hk
  by_cases h0 : cs.length = 0
  · obtain rfl : cs = [] := List.eq_nil_of_length_eq_zero h0
    have hrun := run_copy_none (P := P) w dT sT o.type elem (some ⟨g, off, none⟩) A0 dLen dCap sLen sCap hu hsz (by simpa using hn.symm)
    unfold Oper.wp
    simp [execOp, ho, resolve, invoke, builtin, hd, hs, hrun, Result.andThen]
    exact h w (show _ = _ by simpa [splice] using hg) ⟨rfl, rfl, rfl, rfl, fun _ _ => rfl⟩
  · obtain ⟨ad, rfl, _⟩ := hsrc 0 cs[0] (by simp)
    have hrun := run_copy_row (P := P) w dT sT o.type elem g off dLen dCap ad sLen sCap cur.toArray t cs hu hsz hg hn (fun j v hj => by obtain ⟨ad', e, h2⟩ := hsrc j v hj; cases e; exact h2) (by simpa using hfit) h1
    unfold Oper.wp
    simp [execOp, ho, resolve, invoke, builtin, hd, hs, hrun, Result.andThen]
    exact h _ (show _ = _ by simpa [splice] using setRow_heap w g _ _ t _ hg) ⟨rfl, rfl, rfl, by simp [World.setRow], fun k hk => setRow_other w g k _ hk⟩

/-- A repeatable reader at block B over a parts' reader at Q: what it keeps, where it stands. -/
structure RR (w : World) (M B Q : Nat) (fails : Bool) (ps : List (List Int)) (kept : List Int) (i : Nat) (vb : Value) : Prop where
  hB : w.heap[B]? = some (.cells #[.iface 49 (.pointer (some ⟨Q, 0, none⟩)), .int .i64 i, vb] 71 (0, 0))
  hP : PR w M Q fails ps
  hb : w.ownsRow M 5 1 vb kept.length (byV kept)
  hi : i ≤ kept.length
  lo : M ≤ B
/-- All stays but block D, the kept bytes' block, and what holds readers above M. -/
structure FrR (M D : Nat) (vb : Value) (w w' : World) : Prop where
  os : w'.os = w.os
  tape : w'.tape = w.tape
  output : w'.output = w.output
  size : w.heap.size ≤ w'.heap.size
  block : ∀ k, k < w.heap.size → k ≠ D → some k ≠ vb.ownBlock → (k < M ∨ ∃ cur t, w.heap[k]? = some (.cells cur t (0, 0)) ∧ t ≠ 52 ∧ t ≠ 29 ∧ t ≠ 71) → w'.heap[k]? = w.heap[k]?

def rrRead (fails : Bool) (n : Nat) (ps : List (List Int)) (kept : List Int) (i : Nat) : List (List Int) × List Int × List Int × Int :=
  if i = kept.length then ((rdP fails n ps).2.2, kept ++ (rdP fails n ps).1, (rdP fails n ps).1, (rdP fails n ps).2.1)
  else (ps, kept, (kept.drop i).take n, 0)

theorem info5 : (Tryd.prog.info? 5).map (fun i => (i.zero, i.size, i.bytes)) = some (some (.int .u8 0), 1, 1) := by kernel_rfl
theorem own_neB {w : World} {M B : Nat} {e t : TypeId} {n : Nat} {v : Value} {xs : List Value} {cs : Array Value} (h : w.ownsRow M e 1 v n xs) (hg : w.heap[B]? = some (.cells cs t (0, 0))) (hne : e ≠ t) : some B ≠ v.ownBlock := own_ne h hg hne

set_option maxHeartbeats 4000000 in
set_option maxRecDepth 100000 in
theorem rread_in (M B Q D n : Nat) (fails : Bool) (ps : List (List Int)) (kept : List Int) (vb : Value) (cur : List Value) (w : World) (a : Addr) (h : RR w M B Q fails ps kept kept.length vb) (hD : w.heap[D]? = some (.cells cur.toArray 5 (0, 0))) (hcur : cur.length = n) (hDv : some D ≠ vb.ownBlock) (hn : 1 ≤ n) (hn6 : n ≤ 1000000) (hMD : M ≤ D) (hM : M ≤ w.heap.size) (hL : LaidE w a M)
    (hp6 : ∀ p ∈ ps, p.length ≤ 1000000) (hr6 : ps.length ≤ 1000000) (hk6 : kept.length ≤ 1000000) :
    Calls Tryd.prog 46 #[.pointer (some ⟨B, 0, none⟩), .slice (some ⟨D, 0, none⟩) n n] w fun e w' => ∃ v vb', e = .returned (.tuple #[.int .i64 ((rdP fails n ps).1.length : Int), v]) ∧ ErrS a (rdP fails n ps).2.1 v ∧
      RR w' M B Q fails (rdP fails n ps).2.2 (kept ++ (rdP fails n ps).1) (kept.length + (rdP fails n ps).1.length) vb' ∧ (vb'.ownBlock = vb.ownBlock ∨ ∃ g, vb'.ownBlock = some g ∧ w.heap.size ≤ g) ∧
      w'.heap[D]? = some (.cells (splice cur 0 (byV (rdP fails n ps).1)).toArray 5 (0, 0)) ∧ FrR M D vb w w' := by
  have hpr := pread M Q D 0 n n fails ps cur w a h.hP hD hn hn6 (by omega) hMD hL hp6 hr6
  obtain ⟨data, hdat⟩ : ∃ d, (rdP fails n ps).1 = d := ⟨_, rfl⟩
  obtain ⟨code, hcode⟩ : ∃ d, (rdP fails n ps).2.1 = d := ⟨_, rfl⟩
  obtain ⟨ps', hps'⟩ : ∃ d, (rdP fails n ps).2.2 = d := ⟨_, rfl⟩
  have hdn : data.length ≤ n := by
    rw [← hdat]
    cases ps with
    | nil => simp [rdP]
    | cons p r => simp [rdP]; omega
  rw [hdat, hcode, hps'] at hpr
  rw [hdat, hcode, hps']
  clear hdat hcode hps' hp6 hr6
  obtain ⟨Ab, cb, eb⟩ := own_slice h.hb
  subst eb
  have x0 := cellH h.hB 0 (.iface 49 (.pointer (some ⟨Q, 0, none⟩))) rfl
  have x1 := cellH h.hB 1 (.int .i64 (kept.length : Int)) rfl
  have x2 := cellH h.hB 2 (.slice Ab kept.length cb) rfl
  have e1 : ((kept.length : Int) == (kept.length : Int)) = true := by simp
  have hBD : B ≠ D := neT h.hB hD (by decide)
  have rest := fun (w2 : World) (hF : Fr M D w w2) => hF.at_ h.hB hBD (by decide) (by decide)
  have rown := fun (w2 : World) (hF : Fr M D w w2) => own_move (w1 := w2) h.hb (fun k e => by obtain ⟨cells, hc⟩ := own_typed h.hb k e; exact hF.block k (own_lt h.hb k e) (fun e' => hDv (by rw [e, e'])) (.inr ⟨cells, 5, hc, by decide, by decide⟩))
  obtain ⟨j0, hj0, jz0, jz1, jz2⟩ := info_parts info5
  have hm := m49
  have hlo := h.lo
  have frI : ∀ (w2 w3 : World), Fr M D w w2 → w3.os = w2.os → w3.tape = w2.tape → w3.output = w2.output → w2.heap.size ≤ w3.heap.size → (∀ k, k < w2.heap.size → k ≠ D → k ≠ B → some k ≠ (Value.slice Ab kept.length cb).ownBlock → w3.heap[k]? = w2.heap[k]?) → FrR M D (.slice Ab kept.length cb) w w3 := by
    intro w2 w3 hF h1 h2 h3 h4 h5
    refine ⟨h1.trans hF.os, h2.trans hF.tape, h3.trans hF.output, Nat.le_trans hF.size h4, fun k hk h6 h7 h8 => ?_⟩
    have hkB : k ≠ B := by
      rintro rfl
      rcases h8 with h8 | ⟨_, _, h8, _, _, h9⟩
      · omega
      · rw [h.hB] at h8; cases h8; exact h9 rfl
    refine (h5 k (Nat.lt_of_lt_of_le hk hF.size) h6 hkB h7).trans (hF.block k hk h6 ?_)
    rcases h8 with h8 | ⟨c, t, h8, h9, h10, _⟩
    · exact .inl h8
    · exact .inr ⟨c, t, h8, h9, h10⟩
  by_cases hd0 : data.length = 0
  · obtain rfl : data = [] := List.eq_nil_of_length_eq_zero hd0
    simp only [List.append_nil, List.length_nil, Nat.add_zero, Int.ofNat_zero, Int.natCast_zero] at hpr ⊢
    have hw1 : wrap64 (kept.length : Int) = (kept.length : Int) := wrap64_id (by omega) (by omega)
    have hw0 : IntKind.i64.wrap (kept.length : Int) = (kept.length : Int) := (IntWalk.i64_left _).trans hw1
    clear hd0 hdn
    go_enter Tryd.func46, Tryd.ntmps46
    go_wp2_with (go_at_call 45; go_must (refine hpr.mono ?_; rintro e w2 ⟨v, rfl, hE, hP2, hD2, hF⟩); have h2B := rest w2 hF; have own2 := Lib.hid (rown w2 hF); have szw2 := hF.size; have c22 := cellH h2B 2 (.slice Ab kept.length cb) rfl; have c21 := cellH h2B 1 (.int .i64 (kept.length : Int)) rfl; have f21 := frozenH h2B 1)
    go_ret2
    have h8B := setH h2B 1 (.int .i64 (kept.length : Int)) (by simp)
    have hBv := own_neB own2.out h2B (by decide)
    have hk8 : ∀ k, k ≠ B → (w2.setCell ⟨B, 1, none⟩ (.int .i64 (kept.length : Int))).heap[k]? = w2.heap[k]? := fun k hk => Below.heap_setCell _ _ _ k hk
    refine ⟨v, .slice Ab kept.length cb, rfl, hE, ⟨h8B, hP2.moved (fun k hk => hk8 k ?_), ?_, Nat.le_refl _, hlo⟩, .inl rfl, (hk8 D (fun e => hBD e.symm)).trans hD2, frI w2 _ hF rfl rfl rfl (by simp) (fun k _ _ hkB _ => hk8 k hkB)⟩
    · rintro rfl
      rcases hk with hk | ⟨c, t, hc, ht⟩
      · omega
      · rw [h2B] at hc; cases hc; rcases ht with ht | ht <;> cases ht
    · exact own_move own2.out (fun k e => hk8 k (fun e' => hBv (by rw [e, e'])))
  · have hd0b : decide (0 < (data.length : Int)) = true := decide_eq_true (by omega)
    have hd0c : decide (0 < data.length) = true := decide_eq_true (by omega)
    go_enter Tryd.func46, Tryd.ntmps46
    go_upto_region 5 with (go_at_call 45; go_must (refine hpr.mono ?_; rintro e w2 ⟨v, rfl, hE, hP2, hD2, hF⟩); have h2B := rest w2 hF; have own2 := Lib.hid (rown w2 hF); have szw2 := hF.size; have c22 := cellH h2B 2 (.slice Ab kept.length cb) rfl; have c21 := cellH h2B 1 (.int .i64 (kept.length : Int)) rfl; have f21 := frozenH h2B 1)
    have hnews : Hid (∀ j u, (byV data)[j]? = some u → w2.drew.cell? ((⟨D, 0, none⟩ : Addr).add j) = some u) := Lib.hid (by
      intro j u hj
      have hj2 : j < data.length := by
        obtain ⟨x, h1, _⟩ := byV_get hj
        exact (List.getElem?_eq_some_iff.1 h1).1
      have e : ((⟨D, 0, none⟩ : Addr).add j) = ⟨D, j, none⟩ := by unfold Addr.add; split <;> simp_all
      rw [e]
      refine cellH hD2 j u ?_
      simp only [List.getElem?_toArray, splice, List.take_zero, List.nil_append]
      rw [List.getElem?_append_left (by rw [byV_len]; exact hj2)]
      exact hj)
    refine wp_region_noPanic ?_
    refine wp_region_held_drew (S := (fun _ => True)) (by kernel_rfl) ?h1 (fun hHeld => ?k1)
    case h1 => ((try dsimp only); all_goals trivial)
    refine wpAnyH_take (i := 0) (oi := { dst := some 29, op := Go.Op.move (Go.Operand.tmp 0), type := 53, pos := "repeatable.go:54", after := #[], guard := none }) (v := ?v2) rfl (by kernel_rfl) (by kernel_rfl) (by kernel_rfl) (fun _ _ _ h => h) (Or.inl ⟨by rfl, ?y2⟩) (by assumption) ?r2
    case y2 => (intro w hSw; (try dsimp only at hSw); first | (go_simp; done) | (go_simp; with_reducible rfl))
    try simp only [Act.put, List.setIfInBounds_toArray, List.set_cons_zero, List.set_cons_succ]
    refine wpAnyH_take (i := 1) (oi := { dst := some 30, op := Go.Op.move (Go.Operand.tmp 0), type := 53, pos := "repeatable.go:54", after := #[], guard := none }) (v := ?v3) rfl (by kernel_rfl) (by kernel_rfl) (by kernel_rfl) (fun _ _ _ h => h) (Or.inl ⟨by rfl, ?y3⟩) (by assumption) ?r3
    case y3 => (intro w hSw; (try dsimp only at hSw); first | (go_simp; done) | (go_simp; with_reducible rfl))
    try simp only [Act.put, List.setIfInBounds_toArray, List.set_cons_zero, List.set_cons_succ]
    refine wpAnyH_take (i := 2) (oi := { dst := some 31, op := Go.Op.nilCheck (Go.Operand.tmp 30), type := 0, pos := "repeatable.go:54", after := #[{ on := 1, ground := Go.Ground.data }], guard := none }) (v := ?v4) rfl (by kernel_rfl) (by kernel_rfl) (by kernel_rfl) (fun _ _ _ h => h) (Or.inl ⟨by rfl, ?y4⟩) (by assumption) ?r4
    case y4 => (intro w hSw; (try dsimp only at hSw); first | (go_simp; done) | (go_simp; with_reducible rfl))
    try simp only [Act.put, List.setIfInBounds_toArray, List.set_cons_zero, List.set_cons_succ]
    refine wpAnyH_take (i := 3) (oi := { dst := some 32, op := Go.Op.fieldAddr 71 (Go.Operand.tmp 31) 2, type := 0, pos := "repeatable.go:54", after := #[{ on := 2, ground := Go.Ground.data }], guard := none }) (v := ?v5) rfl (by kernel_rfl) (by kernel_rfl) (by kernel_rfl) (fun _ _ _ h => h) (Or.inl ⟨by rfl, ?y5⟩) (by assumption) ?r5
    case y5 => (intro w hSw; (try dsimp only at hSw); first | (go_simp; done) | (go_simp; with_reducible rfl))
    try simp only [Act.put, List.setIfInBounds_toArray, List.set_cons_zero, List.set_cons_succ]
    refine wpAnyH_take (i := 5) (oi := { dst := some 34, op := Go.Op.move (Go.Operand.tmp 1), type := 29, pos := "repeatable.go:54", after := #[], guard := none }) (v := ?v6) rfl (by kernel_rfl) (by kernel_rfl) (by kernel_rfl) (fun _ _ _ h => h) (Or.inl ⟨by rfl, ?y6⟩) (by assumption) ?r6
    case y6 => (intro w hSw; (try dsimp only at hSw); first | (go_simp; done) | (go_simp; with_reducible rfl))
    try simp only [Act.put, List.setIfInBounds_toArray, List.set_cons_zero, List.set_cons_succ]
    refine wpAnyH_take (i := 6) (oi := { dst := some 35, op := Go.Op.move (Go.Operand.tmp 4), type := 3, pos := "repeatable.go:54", after := #[], guard := none }) (v := ?v7) rfl (by kernel_rfl) (by kernel_rfl) (by kernel_rfl) (fun _ _ _ h => h) (Or.inl ⟨by rfl, ?y7⟩) (by assumption) ?r7
    case y7 => (intro w hSw; (try dsimp only at hSw); first | (go_simp; done) | (go_simp; with_reducible rfl))
    try simp only [Act.put, List.setIfInBounds_toArray, List.set_cons_zero, List.set_cons_succ]
    refine wpAnyH_take (i := 7) (oi := { dst := some 36, op := Go.Op.slice 29 (Go.Operand.tmp 34) none (some (Go.Operand.tmp 35)) none, type := 29, pos := "repeatable.go:54", after := #[{ on := 5, ground := Go.Ground.data }, { on := 6, ground := Go.Ground.data }], guard := none }) (v := ?v8) rfl (by kernel_rfl) (by kernel_rfl) (by kernel_rfl) (fun _ _ _ h => h) (Or.inl ⟨by rfl, ?y8⟩) (by assumption) ?r8
    case y8 => (intro w hSw; (try dsimp only at hSw); first | (go_simp; done) | (go_simp; with_reducible rfl))
    try simp only [Act.put, List.setIfInBounds_toArray, List.set_cons_zero, List.set_cons_succ]
    refine wpAnyH_ready (rs := [4]) (by kernel_rfl) (by simp) ?_
    refine AllReadyH.cons (o := { dst := some 33, op := Go.Op.load 29 (Go.Operand.tmp 32), type := 29, pos := "repeatable.go:54", after := #[{ on := 3, ground := Go.Ground.data }], guard := none }) rfl (fun K hK => ?s9) ?m9
    case m9 => exact AllReadyH.nil
    go_simp
    refine hK.out _ _ ?h9 (fun hHeld => ?k9)
    case h9 => ((try dsimp only); all_goals trivial)
    clear hK K
    try simp only [Act.put, List.setIfInBounds_toArray, List.set_cons_zero, List.set_cons_succ]
    refine wpAnyH_ready (rs := [8]) (by kernel_rfl) (by simp) ?_
    refine AllReadyH.cons (o := { dst := some 37, op := Go.Op.call { callee := Go.Callee.builtin Go.Builtin.append, args := #[Go.Operand.tmp 33, Go.Operand.tmp 36], argTypes := #[29, 29] }, type := 29, pos := "repeatable.go:54", after := #[{ on := 4, ground := Go.Ground.data }, { on := 7, ground := Go.Ground.data }], guard := none }) rfl (fun K hK => ?s10) ?m10
    case m10 => exact AllReadyH.nil
    first | (refine step_append_lies _ rfl (.tmp 33) (.tmp 36) 29 rfl M 5 j0 _ 1 1 Tryd.underlying29 hj0 jz0 jz1 jz2 rfl (by omega) (.slice Ab kept.length cb) kept.length (byV kept) rfl ?own ⟨D, 0, none⟩ data.length n (byV data) rfl ?len ?news (byV_one _) (by omega) (by unfold maxLen; omega) (by omega) ?base _ rfl ?_; (case own => exact own2.out.drew); (case len => rw [byV_len, Nat.mul_one]); (case news => exact hnews.out); (case base => exact Nat.le_trans hM szw2); intro gg cap w6 hown6 hgrow hat hlt6; have h6B := (hgrow.block B (ltH h2B) (own_neB own2.out h2B (by decide))).trans h2B; have x6 := cellH h6B 2 (.slice Ab kept.length cb) rfl; have y6 := frozenH h6B 2)
    refine hK.out _ _ ?h10 (fun hHeld => ?k10)
    case h10 => ((try dsimp only); all_goals trivial)
    clear hK K
    try simp only [Act.put, List.setIfInBounds_toArray, List.set_cons_zero, List.set_cons_succ]
    refine wpAnyH_take (i := 9) (oi := { dst := some 38, op := Go.Op.nilCheck (Go.Operand.tmp 29), type := 0, pos := "repeatable.go:54", after := #[{ on := 0, ground := Go.Ground.data }, { on := 0, ground := Go.Ground.phase }, { on := 1, ground := Go.Ground.phase }, { on := 2, ground := Go.Ground.phase }, { on := 3, ground := Go.Ground.phase }, { on := 4, ground := Go.Ground.phase }, { on := 5, ground := Go.Ground.phase }, { on := 6, ground := Go.Ground.phase }, { on := 7, ground := Go.Ground.phase }, { on := 8, ground := Go.Ground.phase }], guard := none }) (v := ?v11) rfl (by kernel_rfl) (by kernel_rfl) (by kernel_rfl) (fun _ _ _ h => h) (Or.inl ⟨by rfl, ?y11⟩) (by assumption) ?r11
    case y11 => (intro w hSw; (try dsimp only at hSw); first | (go_simp; done) | (go_simp; with_reducible rfl))
    try simp only [Act.put, List.setIfInBounds_toArray, List.set_cons_zero, List.set_cons_succ]
    refine wpAnyH_take (i := 10) (oi := { dst := some 39, op := Go.Op.fieldAddr 71 (Go.Operand.tmp 38) 2, type := 0, pos := "repeatable.go:54", after := #[{ on := 9, ground := Go.Ground.data }, { on := 0, ground := Go.Ground.phase }, { on := 1, ground := Go.Ground.phase }, { on := 2, ground := Go.Ground.phase }, { on := 3, ground := Go.Ground.phase }, { on := 4, ground := Go.Ground.phase }, { on := 5, ground := Go.Ground.phase }, { on := 6, ground := Go.Ground.phase }, { on := 7, ground := Go.Ground.phase }, { on := 8, ground := Go.Ground.phase }], guard := none }) (v := ?v12) rfl (by kernel_rfl) (by kernel_rfl) (by kernel_rfl) (fun _ _ _ h => h) (Or.inl ⟨by rfl, ?y12⟩) (by assumption) ?r12
    case y12 => (intro w hSw; (try dsimp only at hSw); first | (go_simp; done) | (go_simp; with_reducible rfl))
    try simp only [Act.put, List.setIfInBounds_toArray, List.set_cons_zero, List.set_cons_succ]
    refine wpAnyH_ready (rs := [11]) (by kernel_rfl) (by simp) ?_
    refine AllReadyH.cons (o := { dst := none, op := Go.Op.store 29 (Go.Operand.tmp 39) (Go.Operand.tmp 37), type := 0, pos := "repeatable.go:54", after := #[{ on := 10, ground := Go.Ground.data }, { on := 8, ground := Go.Ground.data }, { on := 8, ground := Go.Ground.chain }, { on := 0, ground := Go.Ground.phase }, { on := 1, ground := Go.Ground.phase }, { on := 2, ground := Go.Ground.phase }, { on := 3, ground := Go.Ground.phase }, { on := 4, ground := Go.Ground.phase }, { on := 5, ground := Go.Ground.phase }, { on := 6, ground := Go.Ground.phase }, { on := 7, ground := Go.Ground.phase }, { on := 8, ground := Go.Ground.phase }], guard := none }) rfl (fun K hK => ?s13) ?m13
    case m13 => exact AllReadyH.nil
    go_simp
    refine hK.out _ _ ?h13 (fun hHeld => ?k13)
    case h13 => ((try dsimp only); all_goals trivial)
    clear hK K
    try simp only [Act.put, List.setIfInBounds_toArray, List.set_cons_zero, List.set_cons_succ]
    refine wpAnyH_done (by kernel_rfl) ?_ _
    refine NoPanic.normal ?_
    have hw1 : wrap64 ((kept.length : Int) + (data.length : Int)) = ((kept.length + data.length : Nat) : Int) := by
      rw [wrap64_id (by omega) (by omega)]; omega
    have hw0 : IntKind.i64.wrap ((kept.length : Int) + (data.length : Int)) = ((kept.length + data.length : Nat) : Int) := (IntWalk.i64_left _).trans hw1
    have h7B := setH h6B 2 (.slice (some ⟨gg, 0, none⟩) (kept.length + data.length) cap) (by simp)
    have z1 := cellH h7B 1 (.int .i64 (kept.length : Int)) rfl
    have u1 := frozenH h7B 1
    have h8B := setH h7B 1 (.int .i64 ((kept.length + data.length : Nat) : Int)) (by simp)
    have hk8 : ∀ k, k ≠ B → ((w6.setCell ⟨B, 2, none⟩ (.slice (some ⟨gg, 0, none⟩) (kept.length + data.length) cap)).setCell ⟨B, 1, none⟩ (.int .i64 ((kept.length + data.length : Nat) : Int))).heap[k]? = w6.heap[k]? := fun k hk => (Below.heap_setCell _ _ _ k hk).trans (Below.heap_setCell _ _ _ k hk)
    have hB6 := own_neB hown6 h6B (by decide)
    have key : ∀ k, k < w2.heap.size → k ≠ B → some k ≠ (Value.slice Ab kept.length cb).ownBlock → ((w6.setCell ⟨B, 2, none⟩ (.slice (some ⟨gg, 0, none⟩) (kept.length + data.length) cap)).setCell ⟨B, 1, none⟩ (.int .i64 ((kept.length + data.length : Nat) : Int))).heap[k]? = w2.heap[k]? := fun k h1 h2 h3 => (hk8 k h2).trans (hgrow.block k h1 h3)
    have fP : PR ((w6.setCell ⟨B, 2, none⟩ (.slice (some ⟨gg, 0, none⟩) (kept.length + data.length) cap)).setCell ⟨B, 1, none⟩ (.int .i64 ((kept.length + data.length : Nat) : Int))) M Q fails ps' := hP2.moved (fun k hk => by
      have hlt : k < w2.heap.size := by
        rcases hk with hk | ⟨c, t, hc, _⟩
        · omega
        · exact ltH hc
      refine key k hlt ?_ ?_
      · rintro rfl
        rcases hk with hk | ⟨c, t, hc, ht⟩
        · omega
        · rw [h2B] at hc; cases hc; rcases ht with ht | ht <;> cases ht
      · intro e
        rcases hk with hk | ⟨c, t, hc, ht⟩
        · have := own_base own2.out k e.symm; omega
        · obtain ⟨cells, hq⟩ := own_typed own2.out k e.symm
          rw [hc] at hq; cases hq; rcases ht with ht | ht <;> cases ht)
    have fb : ((w6.setCell ⟨B, 2, none⟩ (.slice (some ⟨gg, 0, none⟩) (kept.length + data.length) cap)).setCell ⟨B, 1, none⟩ (.int .i64 ((kept.length + data.length : Nat) : Int))).ownsRow M 5 1 (.slice (some ⟨gg, 0, none⟩) (kept.length + data.length) cap) (kept ++ data).length (byV (kept ++ data)) := by
      rw [List.length_append, show byV (kept ++ data) = byV kept ++ byV data by simp [byV]]
      exact own_move hown6 (fun k e => hk8 k (fun e' => hB6 (by rw [e, e'])))
    have fD := (key D (ltH hD2) (fun e => hBD e.symm) hDv).trans hD2
    have fF := frI w2 ((w6.setCell ⟨B, 2, none⟩ (.slice (some ⟨gg, 0, none⟩) (kept.length + data.length) cap)).setCell ⟨B, 1, none⟩ (.int .i64 ((kept.length + data.length : Nat) : Int))) hF hgrow.os hgrow.tape hgrow.output (by simpa using hgrow.size) (fun k h1 _ h3 h4 => key k h1 h3 h4)
    have fat : (Value.slice (some ⟨gg, 0, none⟩) (kept.length + data.length) cap).ownBlock = (Value.slice Ab kept.length cb).ownBlock ∨ ∃ g, (Value.slice (some ⟨gg, 0, none⟩) (kept.length + data.length) cap).ownBlock = some g ∧ w.heap.size ≤ g := by
      rcases hat with hat | hat
      · exact .inl hat.symm
      · exact .inr ⟨gg, rfl, by rw [hat]; exact szw2⟩
    have G1 := Lib.hid h8B
    have G2 := Lib.hid fP
    have G3 := Lib.hid fb
    have G4 := Lib.hid fD
    have G5 := Lib.hid fF
    clear h8B fP fb fD fF key hk8 frI hd0 h7B
    go_wp2
    go_ret2
    exact ⟨v, _, rfl, hE, ⟨G1.out, G2.out, G3.out, by rw [List.length_append]; exact Nat.le_refl _, hlo⟩, fat, G4.out, G5.out⟩
end Go.Proofs.YtgbcmjbiddkldaaDoor.Given
