/- The contract of RepeatableReader.Read where it reads what is kept. -/
import Derived.Test.YtgbcmjbiddkldaaDoorRr
namespace Go.Proofs.YtgbcmjbiddkldaaDoor.Given
open Go.RowKit Go.Proofs.YtgbcmjbiddkldaaDoorW.PrintWords Go.Proofs.YtgbcmjbiddkldaaDoor.PR Go.Proofs.YtgbcmjbiddkldaaDoor.Pl
set_option linter.unusedVariables false
set_option linter.unusedSimpArgs false

theorem row_cells {w : World} {base e n size : Nat} {v : Value} {xs : List Value} (h : w.ownsRow base e size v n xs) (hn : 0 < n) : ∃ g c cur, v = .slice (some ⟨g, 0, none⟩) n c ∧ n ≤ c ∧ w.heap[g]? = some (.cells cur e (0, 0)) ∧ base ≤ g ∧ (∀ (j : Nat) (u : Value), xs[j]? = some u → cur[j]? = some u) := by
  rcases h.2 with ⟨rfl, h0⟩ | ⟨g, cap, cur, rfl, hb, hh, hc, hm, hz, ht⟩
  · omega
  · refine ⟨g, cap, cur, rfl, hc, hh, hb, fun j u hu => ?_⟩
    rw [← ht] at hu
    rw [List.getElem?_take] at hu
    split at hu
    · simpa using hu
    · cases hu
theorem add_at (g j i : Nat) : ((⟨g, i, none⟩ : Addr).add j) = ⟨g, i + j, none⟩ := by
  unfold Addr.add
  split
  · rename_i h; subst h; rfl
  · rfl

set_option maxHeartbeats 4000000 in
set_option maxRecDepth 100000 in
theorem rread_kept (M B Q D n i : Nat) (fails : Bool) (ps : List (List Int)) (kept : List Int) (vb : Value) (cur : List Value) (w : World) (h : RR w M B Q fails ps kept i vb) (hi : i < kept.length) (hD : w.heap[D]? = some (.cells cur.toArray 5 (0, 0))) (hcur : cur.length = n) (hDv : some D ≠ vb.ownBlock) (hn6 : n ≤ 1000000) (hMD : M ≤ D) (hM : M ≤ w.heap.size)
    (hk6 : kept.length ≤ 1000000) :
    Calls Tryd.prog 46 #[.pointer (some ⟨B, 0, none⟩), .slice (some ⟨D, 0, none⟩) n n] w fun e w' => e = .returned (.tuple #[.int .i64 (((kept.drop i).take n).length : Int), .nilIface]) ∧
      RR w' M B Q fails ps kept (i + ((kept.drop i).take n).length) vb ∧
      w'.heap[D]? = some (.cells (splice cur 0 (byV ((kept.drop i).take n))).toArray 5 (0, 0)) ∧ FrR M D vb w w' := by
  obtain ⟨data, hdat⟩ : ∃ d, (kept.drop i).take n = d := ⟨_, rfl⟩
  obtain ⟨k, hk⟩ : ∃ k, data.length = k := ⟨_, rfl⟩
  have hkm : k = Nat.min (kept.length - i) n := by rw [← hk, ← hdat, List.length_take, List.length_drop]; exact Nat.min_comm _ _
  have hkn : Hid (0 + k ≤ n) := Lib.hid (by rw [hkm, Nat.zero_add]; exact Nat.min_le_right _ _)
  have hki : i + k ≤ kept.length := by
    have : k ≤ kept.length - i := by rw [hkm]; exact Nat.min_le_left _ _
    omega
  have hHb : Hid ((byV data).length = k) := Lib.hid (by rw [byV_len, hk])
  obtain ⟨gb, cb, gcs, e, hcb, hgb, hMg, hrow⟩ := row_cells h.hb (by omega)
  subst e
  have hsrc : Hid (∀ j v, (byV data)[j]? = some v → w.drew.cell? ((⟨gb, i, none⟩ : Addr).add j) = some v) := Lib.hid (by
    intro j v hj
    obtain ⟨x, h1, rfl⟩ := byV_get hj
    rw [add_at]
    refine cellH hgb (i + j) _ (hrow (i + j) _ ?_)
    rw [← hdat, List.getElem?_take] at h1
    split at h1
    · rw [List.getElem?_drop] at h1
      unfold byV
      rw [List.getElem?_map, h1]
      rfl
    · cases h1)
  rw [hdat, hk]
  have hHn : Hid (k = Nat.min (kept.length - i) n) := Lib.hid hkm
  have hHcur := Lib.hid hcur
  have x1 := cellH h.hB 1 (.int .i64 (i : Int)) rfl
  have x2 := cellH h.hB 2 (.slice (some ⟨gb, 0, none⟩) kept.length cb) rfl
  have hBD : B ≠ D := neT h.hB hD (by decide)
  have e1 : ((i : Int) == (kept.length : Int)) = false := by rw [beq_eq_false_iff_ne]; omega
  have i0 : (0 : Int) ≤ (i : Int) := by omega
  have i1 : (i : Int) ≤ (kept.length : Int) := by omega
  have i2 : ¬ cb = i := by omega
  have hlo := h.lo
  have fin : ∀ w1 : World, Same D w w1 → RR (w1.setCell ⟨B, 1, none⟩ (.int .i64 ((i + k : Nat) : Int))) M B Q fails ps kept (i + k) (.slice (some ⟨gb, 0, none⟩) kept.length cb) ∧ FrR M D (.slice (some ⟨gb, 0, none⟩) kept.length cb) w (w1.setCell ⟨B, 1, none⟩ (.int .i64 ((i + k : Nat) : Int))) := by
    intro w1 hs
    have hB1 := setH ((hs.block B hBD).trans h.hB) 1 (.int .i64 ((i + k : Nat) : Int)) (by simp)
    have key : ∀ j, j ≠ D → j ≠ B → (w1.setCell ⟨B, 1, none⟩ (.int .i64 ((i + k : Nat) : Int))).heap[j]? = w.heap[j]? := fun j h1 h2 => (Below.heap_setCell _ _ _ j h2).trans (hs.block j h1)
    refine ⟨⟨hB1, h.hP.moved (fun j hj => key j ?_ ?_), own_move h.hb (fun j e => key j (fun e' => hDv (by rw [e, e'])) (fun e' => own_neB h.hb h.hB (by decide) (by rw [e, e']))), hki, hlo⟩, ⟨hs.os, hs.tape, hs.output, by simp [hs.size], fun j _ h1 _ h3 => key j h1 ?_⟩⟩
    · rintro rfl
      rcases hj with hj | ⟨c, t, hc, ht⟩
      · omega
      · rw [hD] at hc; cases hc; rcases ht with ht | ht <;> cases ht
    · rintro rfl
      rcases hj with hj | ⟨c, t, hc, ht⟩
      · omega
      · rw [h.hB] at hc; cases hc; rcases ht with ht | ht <;> cases ht
    · rintro rfl
      rcases h3 with h3 | ⟨c, t, hc, _, _, ht⟩
      · omega
      · rw [h.hB] at hc; cases hc; exact ht rfl
  have hw1 : wrap64 ((i : Int) + (k : Int)) = ((i + k : Nat) : Int) := by
    rw [wrap64_id (by omega) (by omega)]; omega
  have hw0 : IntKind.i64.wrap ((i : Int) + (k : Int)) = ((i + k : Nat) : Int) := (IntWalk.i64_left _).trans hw1
  clear hk hkm hcur hdat hrow
  go_enter Tryd.func46, Tryd.ntmps46
  go_upto_region 6 with fail
  refine wp_region_noPanic ?_
  refine wp_region_held_drew (S := (fun w' => w'.cell? ⟨B, 2, none⟩ = some (.slice (some ⟨gb, 0, none⟩) kept.length cb) ∧ w'.cell? ⟨B, 1, none⟩ = some (.int .i64 (i : Int)))) (by kernel_rfl) ?h1 (fun hHeld => ?k1)
  case h1 => ((try dsimp only); first | assumption | (refine ⟨?_, ?_⟩ <;> first | assumption | go_keep) | (refine ⟨?_, ?_⟩; exact kq2; exact kq1))
  refine wpAnyH_take (i := 0) (oi := { dst := some 40, op := Go.Op.move (Go.Operand.tmp 1), type := 29, pos := "repeatable.go:57", after := #[], guard := none }) (v := ?v2) rfl (by kernel_rfl) (by kernel_rfl) (by kernel_rfl) (fun _ _ _ h => h) (Or.inl ⟨by rfl, ?y2⟩) (by assumption) ?r2
  case y2 => (intro w hSw; (try dsimp only at hSw); first | (go_simp; done) | (go_simp; with_reducible rfl))
  try simp only [Act.put, List.setIfInBounds_toArray, List.set_cons_zero, List.set_cons_succ]
  refine wpAnyH_take (i := 1) (oi := { dst := some 41, op := Go.Op.move (Go.Operand.tmp 0), type := 53, pos := "repeatable.go:57", after := #[], guard := none }) (v := ?v3) rfl (by kernel_rfl) (by kernel_rfl) (by kernel_rfl) (fun _ _ _ h => h) (Or.inl ⟨by rfl, ?y3⟩) (by assumption) ?r3
  case y3 => (intro w hSw; (try dsimp only at hSw); first | (go_simp; done) | (go_simp; with_reducible rfl))
  try simp only [Act.put, List.setIfInBounds_toArray, List.set_cons_zero, List.set_cons_succ]
  refine wpAnyH_take (i := 2) (oi := { dst := some 42, op := Go.Op.nilCheck (Go.Operand.tmp 41), type := 0, pos := "repeatable.go:57", after := #[{ on := 1, ground := Go.Ground.data }], guard := none }) (v := ?v4) rfl (by kernel_rfl) (by kernel_rfl) (by kernel_rfl) (fun _ _ _ h => h) (Or.inl ⟨by rfl, ?y4⟩) (by assumption) ?r4
  case y4 => (intro w hSw; (try dsimp only at hSw); first | (go_simp; done) | (go_simp; with_reducible rfl))
  try simp only [Act.put, List.setIfInBounds_toArray, List.set_cons_zero, List.set_cons_succ]
  refine wpAnyH_take (i := 3) (oi := { dst := some 43, op := Go.Op.fieldAddr 71 (Go.Operand.tmp 42) 2, type := 0, pos := "repeatable.go:57", after := #[{ on := 2, ground := Go.Ground.data }], guard := none }) (v := ?v5) rfl (by kernel_rfl) (by kernel_rfl) (by kernel_rfl) (fun _ _ _ h => h) (Or.inl ⟨by rfl, ?y5⟩) (by assumption) ?r5
  case y5 => (intro w hSw; (try dsimp only at hSw); first | (go_simp; done) | (go_simp; with_reducible rfl))
  try simp only [Act.put, List.setIfInBounds_toArray, List.set_cons_zero, List.set_cons_succ]
  refine wpAnyH_take (i := 4) (oi := { dst := some 44, op := Go.Op.load 29 (Go.Operand.tmp 43), type := 29, pos := "repeatable.go:57", after := #[{ on := 3, ground := Go.Ground.data }], guard := none }) (v := ?v6) rfl (by kernel_rfl) (by kernel_rfl) (by kernel_rfl) (fun _ _ _ h => h) (Or.inl ⟨by rfl, ?y6⟩) (by assumption) ?r6
  case y6 => (intro w hSw; (try dsimp only at hSw); first | (go_simp; done) | (go_simp; with_reducible rfl))
  try simp only [Act.put, List.setIfInBounds_toArray, List.set_cons_zero, List.set_cons_succ]
  refine wpAnyH_take (i := 5) (oi := { dst := some 45, op := Go.Op.move (Go.Operand.tmp 0), type := 53, pos := "repeatable.go:57", after := #[], guard := none }) (v := ?v7) rfl (by kernel_rfl) (by kernel_rfl) (by kernel_rfl) (fun _ _ _ h => h) (Or.inl ⟨by rfl, ?y7⟩) (by assumption) ?r7
  case y7 => (intro w hSw; (try dsimp only at hSw); first | (go_simp; done) | (go_simp; with_reducible rfl))
  try simp only [Act.put, List.setIfInBounds_toArray, List.set_cons_zero, List.set_cons_succ]
  refine wpAnyH_take (i := 6) (oi := { dst := some 46, op := Go.Op.nilCheck (Go.Operand.tmp 45), type := 0, pos := "repeatable.go:57", after := #[{ on := 5, ground := Go.Ground.data }], guard := none }) (v := ?v8) rfl (by kernel_rfl) (by kernel_rfl) (by kernel_rfl) (fun _ _ _ h => h) (Or.inl ⟨by rfl, ?y8⟩) (by assumption) ?r8
  case y8 => (intro w hSw; (try dsimp only at hSw); first | (go_simp; done) | (go_simp; with_reducible rfl))
  try simp only [Act.put, List.setIfInBounds_toArray, List.set_cons_zero, List.set_cons_succ]
  refine wpAnyH_take (i := 7) (oi := { dst := some 47, op := Go.Op.fieldAddr 71 (Go.Operand.tmp 46) 1, type := 0, pos := "repeatable.go:57", after := #[{ on := 6, ground := Go.Ground.data }], guard := none }) (v := ?v9) rfl (by kernel_rfl) (by kernel_rfl) (by kernel_rfl) (fun _ _ _ h => h) (Or.inl ⟨by rfl, ?y9⟩) (by assumption) ?r9
  case y9 => (intro w hSw; (try dsimp only at hSw); first | (go_simp; done) | (go_simp; with_reducible rfl))
  try simp only [Act.put, List.setIfInBounds_toArray, List.set_cons_zero, List.set_cons_succ]
  refine wpAnyH_take (i := 8) (oi := { dst := some 48, op := Go.Op.load 2 (Go.Operand.tmp 47), type := 2, pos := "repeatable.go:57", after := #[{ on := 7, ground := Go.Ground.data }], guard := none }) (v := ?v10) rfl (by kernel_rfl) (by kernel_rfl) (by kernel_rfl) (fun _ _ _ h => h) (Or.inl ⟨by rfl, ?y10⟩) (by assumption) ?r10
  case y10 => (intro w hSw; (try dsimp only at hSw); first | (go_simp; done) | (go_simp; with_reducible rfl))
  try simp only [Act.put, List.setIfInBounds_toArray, List.set_cons_zero, List.set_cons_succ]
  refine wpAnyH_take (i := 9) (oi := { dst := some 49, op := Go.Op.slice 29 (Go.Operand.tmp 44) (some (Go.Operand.tmp 48)) none none, type := 29, pos := "repeatable.go:57", after := #[{ on := 4, ground := Go.Ground.data }, { on := 8, ground := Go.Ground.data }], guard := none }) (v := ?v11) rfl (by kernel_rfl) (by kernel_rfl) (by kernel_rfl) (fun _ _ _ h => h) (Or.inl ⟨by rfl, ?y11⟩) (by assumption) ?r11
  case y11 => (intro w hSw; (try dsimp only at hSw); first | (go_simp; done) | (go_simp; with_reducible rfl))
  try simp only [Act.put, List.setIfInBounds_toArray, List.set_cons_zero, List.set_cons_succ]
  refine wpAnyH_ready (rs := [10]) (by kernel_rfl) (by simp) ?_
  refine AllReadyH.cons (o := { dst := some 50, op := Go.Op.call { callee := Go.Callee.builtin Go.Builtin.copy, args := #[Go.Operand.tmp 40, Go.Operand.tmp 49], argTypes := #[29, 29] }, type := 3, pos := "repeatable.go:57", after := #[{ on := 0, ground := Go.Ground.data }, { on := 9, ground := Go.Ground.data }], guard := none }) rfl (fun K hK => ?s12) ?m12
  case m12 => exact AllReadyH.nil
  (refine step_copy_all rfl (.tmp 40) (.tmp 49) 29 29 rfl 5 Tryd.underlying29 sz5 _ D 0 n n _ _ rfl rfl cur 5 ?hg (byV data) k hHb.out ?hn ?src ?fit (byV_one _) ?_; (case hg => exact hD); (case hn => exact hHn.out); (case fit => (rw [hHcur.out]; exact hkn.out)); (case src => (intro j v hj; exact ⟨_, rfl, hsrc.out j v hj⟩)); intro w1 hD1 hS1; have kq2 := cellH ((hS1.block B hBD).trans h.hB) 2 (.slice (some ⟨gb, 0, none⟩) kept.length cb) rfl; have kq1 := cellH ((hS1.block B hBD).trans h.hB) 1 (.int .i64 (i : Int)) rfl)
  refine hK.out _ _ ?h12 (fun hHeld => ?k12)
  case h12 => ((try dsimp only); first | assumption | (refine ⟨?_, ?_⟩ <;> first | assumption | go_keep) | (refine ⟨?_, ?_⟩; exact kq2; exact kq1))
  clear hK K
  try simp only [Act.put, List.setIfInBounds_toArray, List.set_cons_zero, List.set_cons_succ]
  refine wpAnyH_take (i := 11) (oi := { dst := some 4, op := Go.Op.assign (Go.Operand.tmp 50), type := 3, pos := "repeatable.go:57", after := #[{ on := 10, ground := Go.Ground.data }, { on := 10, ground := Go.Ground.chain }, { on := 0, ground := Go.Ground.phase }, { on := 1, ground := Go.Ground.phase }, { on := 2, ground := Go.Ground.phase }, { on := 3, ground := Go.Ground.phase }, { on := 4, ground := Go.Ground.phase }, { on := 5, ground := Go.Ground.phase }, { on := 6, ground := Go.Ground.phase }, { on := 7, ground := Go.Ground.phase }, { on := 8, ground := Go.Ground.phase }, { on := 9, ground := Go.Ground.phase }, { on := 10, ground := Go.Ground.phase }], guard := none }) (v := ?v13) rfl (by kernel_rfl) (by kernel_rfl) (by kernel_rfl) (fun _ _ _ h => h) (Or.inl ⟨by rfl, ?y13⟩) (by assumption) ?r13
  case y13 => (intro w hSw; (try dsimp only at hSw); first | (go_simp; done) | (go_simp; with_reducible rfl))
  try simp only [Act.put, List.setIfInBounds_toArray, List.set_cons_zero, List.set_cons_succ]
  refine wpAnyH_done (by kernel_rfl) ?_ _
  refine NoPanic.normal ?_
  have hS2 : Same D w w1 := ⟨hS1.os, hS1.tape, hS1.output, hS1.size, hS1.block⟩
  obtain ⟨f1, f2⟩ := fin w1 hS2
  have z1 := cellH ((hS2.block B hBD).trans h.hB) 1 (.int .i64 (i : Int)) rfl
  have G1 := Lib.hid f1
  have G2 := Lib.hid f2
  have u1 := frozenH ((hS1.block B hBD).trans h.hB) 1
  have G3 := Lib.hid ((Below.heap_setCell w1 ⟨B, 1, none⟩ (.int .i64 ((i + k : Nat) : Int)) D (fun e => hBD e.symm)).trans hD1.out)
  clear fin f1 f2
  go_wp2
  go_ret2
  exact ⟨rfl, G1.out, G3.out, G2.out⟩
end Go.Proofs.YtgbcmjbiddkldaaDoor.Given
