/- The contract of impl.ReadFill. -/
import Derived.Test.YtgbcmjbiddkldaaDoorFl
namespace Go.Proofs.YtgbcmjbiddkldaaDoor.Given
open Go.RowKit Go.Proofs.YtgbcmjbiddkldaaDoorW.PrintWords Go.Proofs.YtgbcmjbiddkldaaDoor.PR Go.Proofs.YtgbcmjbiddkldaaDoor.Pl
set_option linter.unusedVariables false
set_option linter.unusedSimpArgs false

set_option maxHeartbeats 2000000 in
set_option maxRecDepth 100000 in
theorem copied_M (w : World) (M : Nat) (hM : M ≤ w.heap.size) (A0 : Option Addr) (c0 : Nat) (l : List (List Int)) (hrd : l ≠ [] → ∃ ad, A0 = some ad ∧ ∃ vs : List Value, vs.length = l.length ∧ (∀ (j : Nat) (v : Value), vs[j]? = some v → w.cell? (ad.add j) = some v) ∧ (∀ (j : Nat) (p : List Int) (v : Value), l[j]? = some p → vs[j]? = some v → RdB w M v p) ∧ ∀ v ∈ vs, v.oneCell' = true) (hl : l.length ≤ 1000000) :
    Calls Tryd.prog 18 #[.slice A0 l.length c0] w fun e w' => ∃ A c, e = .returned (.slice A l.length c) ∧ Parts w' M A c l ∧ Below w.heap.size w w' := by
  obtain ⟨i0, hi0, iz0, iz1, iz2⟩ := info_parts info29
  have b1 : Below w.heap.size w (w.alloc (.cells #[] 29)) := (Below.refl _ _).alloc (Nat.le_refl _) _
  have h1 := (MapKept.heap_alloc w (.cells #[] 29)).1
  have own0 : (w.alloc (.cells #[] 29)).ownsRow w.heap.size 29 1 (.slice (some ⟨w.heap.size, 0, none⟩) 0 0) 0 [] := ⟨rfl, .inr ⟨_, 0, #[], rfl, Nat.le_refl _, h1, Nat.le_refl _, by unfold maxLen; omega, rfl, rfl⟩⟩
  by_cases hn : l = []
  · subst hn
    cases A0 with
    | none =>
      go_enter Tryd.func18, Tryd.ntmps18
      go_wp2_with (at_builtin; go_must (refine wpList_append_nil rfl (.tmp 3) (.tmp 4) rfl rfl w.heap.size c0 rfl rfl ?_))
      go_ret
      exact ⟨_, _, rfl, ⟨Nat.le_refl _, fun h => absurd rfl h⟩, b1⟩
    | some ad =>
      go_enter Tryd.func18, Tryd.ntmps18
      go_wp2_with (at_builtin; go_must (refine wpList_append_own _ rfl (.tmp 3) (.tmp 4) 22 rfl w.heap.size 29 i0 _ 1 24 Tryd.underlying22 hi0 iz0 iz1 iz2 rfl (by decide) _ 0 [] rfl own0 ad 0 c0 [] rfl rfl (by simp) (by simp) (by unfold maxLen; omega) (by omega) (by simp) ?_; intro v8 w8 hown8 hg8 hnil8))
      go_ret
      obtain ⟨A, c, e⟩ := own_slice hown8
      subst e
      refine ⟨A, c, rfl, ⟨Nat.zero_le _, fun h => absurd rfl h⟩, b1.trans ⟨hg8.os, hg8.tape, hg8.output, hg8.size, fun k hk => hg8.block k (by simp; omega) (fun e => by have := Option.some.inj (show some k = some w.heap.size from e); omega)⟩⟩
  · obtain ⟨ad, rfl, vs, hvl, hvc, hvr, hv1⟩ := hrd hn
    have hnews : ∀ j u, vs[j]? = some u → (w.alloc (.cells #[] 29)).cell? (ad.add j) = some u := fun j u hj => (cell_kept (b1.block _ (by have := World.block_lt_of_cell? w _ (hvc j u hj); exact this))).trans (hvc j u hj)
    have hpos : 0 < l.length := List.length_pos_iff.2 hn
    go_enter Tryd.func18, Tryd.ntmps18
    go_wp2_with (at_builtin; go_must (refine wpList_append_own _ rfl (.tmp 3) (.tmp 4) 22 rfl w.heap.size 29 i0 _ 1 24 Tryd.underlying22 hi0 iz0 iz1 iz2 rfl (by decide) _ 0 [] rfl own0 ad l.length c0 vs rfl (by rw [hvl, Nat.mul_one]) hnews hv1 (by unfold maxLen; omega) (by omega) (by simp) ?_; intro v8 w8 hown8 hg8 hnil8))
    go_ret
    rw [Nat.zero_add, List.nil_append] at hown8
    obtain ⟨G, c, cur, e, hlc, hG, hMG, hcur⟩ := row_cells hown8 hpos
    subst e
    have hb : Below w.heap.size w w8 := b1.trans ⟨hg8.os, hg8.tape, hg8.output, hg8.size, fun k hk => hg8.block k (by simp; omega) (fun e => by have := Option.some.inj (show some k = some w.heap.size from e); omega)⟩
    refine ⟨_, c, rfl, ⟨hlc, fun _ => ⟨G, cur, rfl, Nat.le_trans hM hMG, hG, fun j p hj => ?_⟩⟩, hb⟩
    have hjl : j < vs.length := by rw [hvl]; exact (List.getElem?_eq_some_iff.1 hj).1
    exact ⟨vs[j], hcur j _ (List.getElem?_eq_getElem hjl), (hvr j p _ hj (List.getElem?_eq_getElem hjl)).kept (fun k hk => hb.block k (Nat.lt_of_lt_of_le hk hM))⟩

theorem parts_at {w w1 : World} {A : Option Addr} {l : List (List Int)} (h : Kd.C (Kd.slice 5 (Kd.int .u8)) w A l.length l) (hb : Below w.heap.size w w1) : l ≠ [] → ∃ ad, A = some ad ∧ ∃ vs : List Value, vs.length = l.length ∧ (∀ (j : Nat) (v : Value), vs[j]? = some v → w1.cell? (ad.add j) = some v) ∧ (∀ (j : Nat) (p : List Int) (v : Value), l[j]? = some p → vs[j]? = some v → RdB w1 w.heap.size v p) ∧ ∀ v ∈ vs, v.oneCell' = true := by
  intro hl
  obtain ⟨ad, e, vs, h1, h2, h3, h4⟩ := parts_rd h hl
  exact ⟨ad, e, vs, h1, fun j v hj => (hb.cell (World.block_lt_of_cell? w _ (h2 j v hj))).trans (h2 j v hj), fun j p v hp hv => (h3 j p v hp hv).kept hb.block, h4⟩

set_option maxHeartbeats 4000000 in
set_option maxRecDepth 100000 in
theorem rfill_any (w : World) (a : Addr) (M0 : Nat) (A0 : Option Addr) (c0 : Nat) (l : List (List Int)) (fails : Bool) (N : Nat) (hL : LaidE w a M0) (hC : Kd.C (Kd.slice 5 (Kd.int .u8)) w A0 l.length l) (hc : l.length ≤ c0) (hl : l.length ≤ 30) (hp : ∀ p ∈ l, p.length ≤ 100000) (hN : N ≤ 5000) :
    Calls Tryd.prog 16 #[.slice A0 l.length c0, .bool fails, .int .i64 (N : Int)] w fun e w' => ∃ dv, e = .returned (.tuple #[dv, .int .i64 (if l.flatten.length < N then (if fails then 2 else 1) else 0)]) ∧ DataAt w' w.heap.size (.slice none 0 0) dv (l.flatten.take N) ∧ Below w.heap.size w w' := by
  obtain ⟨M, hM⟩ : ∃ M, w.heap.size = M := ⟨_, rfl⟩
  obtain ⟨cd, hcd⟩ : ∃ c : Int, (if l.flatten.length < N then (if fails then 2 else 1) else 0) = c := ⟨_, rfl⟩
  obtain ⟨tk, htk⟩ : ∃ t, l.flatten.take N = t := ⟨_, rfl⟩
  rw [hcd, htk]
  have htl : tk.length ≤ N := by rw [← htk]; simp; omega
  obtain ⟨j0, hj0, jz0, jz1, jz2⟩ := info_parts info5
  have hcp := fun (w1 : World) (hb : Below w.heap.size w w1) => copied_M w1 w.heap.size hb.size A0 c0 l (parts_at hC hb) (by omega)
  rw [hM] at hcp ⊢
  have hb2 : 1 * N ≤ 281474976710656 := by omega
  have hb3 : N ≤ maxLen := by unfold maxLen; omega
  have hML : M0 ≤ M := by have := hL.le; omega
  have hHM := Lib.hid hM
  have hl30 : Hid (l.length ≤ 1000000) := Lib.hid (by omega)
  have hp6 : ∀ p ∈ l, p.length ≤ 1000000 := fun p h => Nat.le_trans (hp p h) (by omega)
  have fin := fun (w2 : World) (Q D : Nat) (cur : List Value) (h1 : PR w2 M Q fails l) (h2 : w2.heap[D]? = some (.cells cur.toArray 5 (0, 0))) (h3 : cur.length = N) (h4 : M ≤ D) (h5 : M ≤ w2.heap.size) (h6 : LaidE w2 a M) =>
    fill_any M Q D N fails l cur w2 a h1 h2 h3 (by omega) h4 h5 h6 hp6 (by omega)
  have hcd' := Lib.hid hcd
  have htk' := Lib.hid htk
  clear hM hl hp hcd htk hC
  go_enter Tryd.func16, Tryd.ntmps16
  go_upto_region 3 with (first
    | (at_make; go_must (refine wpList_make_full _ rfl (.tmp 11) (.tmp 11) 29 rfl M 5 j0 _ 1 Tryd.underlying29 hj0 jz0 jz1 .i64 .i64 (N : Int) (N : Int) N rfl rfl rfl rfl (by rw [jz2]; exact hb2) hb3 (by rw [hHM.out]; exact Nat.le_refl _) ?_; intro w3 hmk hg3); obtain ⟨cur, hcur, hcl⟩ := make_cells hmk; have hb1 : Below M w w3 := ⟨hg3.os, hg3.tape, hg3.output, hg3.size, fun k hk => hg3.block k (by rw [hHM.out]; exact hk) (by simp)⟩; have s3 : M ≤ w3.heap.size := (by have := hg3.size; rw [hHM.out] at this; exact this); have hMD : M ≤ w.heap.size := (by rw [hHM.out]; exact Nat.le_refl _))
    | (go_at_call 18; go_must (refine (hcp _ hb1).mono ?_; rintro e w4 ⟨A, c, rfl, hPa, hb4⟩); have s4 := Nat.le_trans s3 hb4.size; have hPR := PR.made (fails := fails) hPa s4; have hcur4 := (hb4.block _ (ltH hcur)).trans hcur)
    | (go_at_call 25; go_must (refine (fin _ w4.heap.size w.heap.size cur hPR ((Below.heap_alloc _ _ _ (ltH hcur4)).trans hcur4) hcl hMD (Nat.le_trans s4 (by simp)) (hL.up (fun k hk => (Below.heap_alloc _ _ _ (Nat.lt_of_lt_of_le hk (Nat.le_trans hML s4))).trans ((hb4.block k (Nat.lt_of_lt_of_le hk (Nat.le_trans hML s3))).trans (hb1.block k (Nat.lt_of_lt_of_le hk hML)))) hML (Nat.le_trans s4 (by simp)))).mono ?_; rintro e w6 ⟨acc, code, v, cur', rfl, hE, hacc, hcode, hD6, hcl6, htake, hF6⟩); obtain rfl : acc = tk := hacc.trans htk'.out; obtain rfl : code = cd := hcode.trans hcd'.out; clear hacc hcode))
  have bAll : Below M w w6 := (hb1.trans (hb4.mono s3)).trans (((Below.refl _ _).alloc s4 _).trans (hF6.toBelow hMD (Nat.le_trans s4 (by simp))))
  have hL6 := Lib.hid (hL.up (w' := w6) (fun k hk => bAll.block k (Nat.lt_of_lt_of_le hk hML)) hML (Nat.le_trans (Nat.le_trans s4 (by simp)) hF6.size))
  have hda : Hid (DataAt w6 M (.slice none 0 0) (.slice (some ⟨w.heap.size, 0, none⟩) acc.length N) acc) := Lib.hid ⟨_, _, rfl, htl, fun D hDD => by
    have : w.heap.size = D := by simpa [Value.ownBlock] using hDD
    subst this
    exact ⟨hMD, ⟨_, hD6⟩, by simp [Value.ownBlock]⟩, fun j x hj => ⟨_, rfl, cellH hD6 j _ (by
      have hj2 : j < acc.length := (List.getElem?_eq_some_iff.1 hj).1
      have h1 := congrArg (·[j]?) htake
      simp only [List.getElem?_take, hj2, if_true] at h1
      simp only [List.getElem?_toArray]
      rw [h1]
      unfold byV
      rw [List.getElem?_map, hj]
      rfl)⟩⟩
  have z0 : (0 : Int) ≤ (acc.length : Int) := by omega
  have z1 : (acc.length : Int) ≤ (N : Int) := by omega
  have hB' := Lib.hid bAll
  clear bAll hD6 htake hF6 fin hcp
  refine wp_region_noPanic ?_
  refine wp_region_held_drew (S := (fun _ => True)) (by kernel_rfl) ?h1 (fun hHeld => ?k1)
  case h1 => ((try dsimp only); all_goals trivial)
  refine wpAnyH_take (i := 0) (oi := { dst := some 24, op := Go.Op.move (Go.Operand.tmp 8), type := 29, pos := "readers.go:41", after := #[], guard := none }) (v := ?v2) rfl (by kernel_rfl) (by kernel_rfl) (by kernel_rfl) (fun _ _ _ h => h) (Or.inl ⟨by rfl, ?y2⟩) (by assumption) ?r2
  case y2 => (intro w hSw; (try dsimp only at hSw); first | (go_simp; done) | (go_simp; with_reducible rfl))
  try simp only [Act.put, List.setIfInBounds_toArray, List.set_cons_zero, List.set_cons_succ]
  refine wpAnyH_take (i := 1) (oi := { dst := some 25, op := Go.Op.move (Go.Operand.tmp 9), type := 3, pos := "readers.go:41", after := #[], guard := none }) (v := ?v3) rfl (by kernel_rfl) (by kernel_rfl) (by kernel_rfl) (fun _ _ _ h => h) (Or.inl ⟨by rfl, ?y3⟩) (by assumption) ?r3
  case y3 => (intro w hSw; (try dsimp only at hSw); first | (go_simp; done) | (go_simp; with_reducible rfl))
  try simp only [Act.put, List.setIfInBounds_toArray, List.set_cons_zero, List.set_cons_succ]
  refine wpAnyH_take (i := 2) (oi := { dst := some 26, op := Go.Op.slice 29 (Go.Operand.tmp 24) none (some (Go.Operand.tmp 25)) none, type := 29, pos := "readers.go:41", after := #[{ on := 0, ground := Go.Ground.data }, { on := 1, ground := Go.Ground.data }], guard := none }) (v := ?v4) rfl (by kernel_rfl) (by kernel_rfl) (by kernel_rfl) (fun _ _ _ h => h) (Or.inl ⟨by rfl, ?y4⟩) (by assumption) ?r4
  case y4 => (intro w hSw; (try dsimp only at hSw); first | (go_simp; done) | (go_simp; with_reducible rfl))
  try simp only [Act.put, List.setIfInBounds_toArray, List.set_cons_zero, List.set_cons_succ]
  refine wpAnyH_take (i := 3) (oi := { dst := some 27, op := Go.Op.move (Go.Operand.tmp 10), type := 64, pos := "readers.go:41", after := #[], guard := none }) (v := ?v5) rfl (by kernel_rfl) (by kernel_rfl) (by kernel_rfl) (fun _ _ _ h => h) (Or.inl ⟨by rfl, ?y5⟩) (by assumption) ?r5
  case y5 => (intro w hSw; (try dsimp only at hSw); first | (go_simp; done) | (go_simp; with_reducible rfl))
  try simp only [Act.put, List.setIfInBounds_toArray, List.set_cons_zero, List.set_cons_succ]
  refine wpAnyH_ready (rs := [4]) (by kernel_rfl) (by simp) ?_
  refine AllReadyH.cons (o := { dst := some 28, op := Go.Op.call { callee := Go.Callee.value (Go.Operand.func 26), args := #[Go.Operand.tmp 27], argTypes := #[64] }, type := 3, pos := "readers.go:41", after := #[{ on := 3, ground := Go.Ground.data }], guard := none }) rfl (fun K hK => ?s6) ?m6
  case m6 => exact AllReadyH.nil
  go_simp; go_at_call 26; refine (kind_any w6.drew a M _ v (hL6.out.below (fun k hk => rfl) (Nat.le_refl _)) (hE.toV _ _)).mono ?_; rintro e w8 ⟨rfl, rfl⟩
  refine hK.out _ _ ?h6 (fun hHeld => ?k6)
  case h6 => ((try dsimp only); all_goals trivial)
  clear hK K
  try simp only [Act.put, List.setIfInBounds_toArray, List.set_cons_zero, List.set_cons_succ]
  refine wpAnyH_take (i := 5) (oi := { dst := some 6, op := Go.Op.assign (Go.Operand.tmp 26), type := 29, pos := "readers.go:41", after := #[{ on := 2, ground := Go.Ground.data }, { on := 4, ground := Go.Ground.chain }, { on := 0, ground := Go.Ground.phase }, { on := 1, ground := Go.Ground.phase }, { on := 2, ground := Go.Ground.phase }, { on := 3, ground := Go.Ground.textOnly Go.Departure.lateStores }, { on := 4, ground := Go.Ground.textOnly Go.Departure.lateStoresUnsure }], guard := none }) (v := ?v7) rfl (by kernel_rfl) (by kernel_rfl) (by kernel_rfl) (fun _ _ _ h => h) (Or.inl ⟨by rfl, ?y7⟩) (by assumption) ?r7
  case y7 => (intro w hSw; (try dsimp only at hSw); first | (go_simp; done) | (go_simp; with_reducible rfl))
  try simp only [Act.put, List.setIfInBounds_toArray, List.set_cons_zero, List.set_cons_succ]
  refine wpAnyH_take (i := 6) (oi := { dst := some 7, op := Go.Op.assign (Go.Operand.tmp 28), type := 3, pos := "readers.go:41", after := #[{ on := 4, ground := Go.Ground.data }, { on := 5, ground := Go.Ground.chain }, { on := 0, ground := Go.Ground.phase }, { on := 1, ground := Go.Ground.phase }, { on := 2, ground := Go.Ground.phase }, { on := 3, ground := Go.Ground.phase }, { on := 4, ground := Go.Ground.phase }, { on := 5, ground := Go.Ground.phase }], guard := none }) (v := ?v8) rfl (by kernel_rfl) (by kernel_rfl) (by kernel_rfl) (fun _ _ _ h => h) (Or.inl ⟨by rfl, ?y8⟩) (by assumption) ?r8
  case y8 => (intro w hSw; (try dsimp only at hSw); first | (go_simp; done) | (go_simp; with_reducible rfl))
  try simp only [Act.put, List.setIfInBounds_toArray, List.set_cons_zero, List.set_cons_succ]
  refine wpAnyH_done (by kernel_rfl) ?_ _
  refine NoPanic.normal ?_
  go_wp2
  go_ret2
  exact ⟨_, rfl, hda.out, below_drew1 hB'.out⟩
end Go.Proofs.YtgbcmjbiddkldaaDoor.Given
