/- The makers: impl.copied, NewRepeatableReader, NewRepeatableReaderSized; and impl.ReadRepeatable's contract (not limited). -/
import Derived.Test.YtgbcmjbiddkldaaDoorSt
namespace Go.Proofs.YtgbcmjbiddkldaaDoor.Given
open Go.RowKit Go.Proofs.YtgbcmjbiddkldaaDoorW.PrintWords Go.Proofs.YtgbcmjbiddkldaaDoor.PR Go.Proofs.YtgbcmjbiddkldaaDoor.Pl
set_option linter.unusedVariables false
set_option linter.unusedSimpArgs false

theorem bytes_rd {w : World} {A : Option Addr} {c : Nat} {xs : List Int} (h : Kd.C (Kd.int .u8) w A xs.length xs) (hc : xs.length ≤ c) : RdB w w.heap.size (.slice A xs.length c) xs := by
  refine ⟨A, c, rfl, hc, fun j x hj => ?_⟩
  have hlt : j < xs.length := (List.getElem?_eq_some_iff.1 hj).1
  obtain ⟨ad, rfl, h2⟩ := h.2.2 (by omega)
  obtain ⟨cs, hl, hK, h3⟩ := h2 j x hj
  have hK' : cs = [.int .u8 x] := hK
  subst hK'
  have h4 := h3 0 _ rfl
  have e : (ad.add (j * 1 + 0)) = ad.add j := by rw [Nat.mul_one, Nat.add_zero]
  have h5 : w.cell? (ad.add j) = some (.int .u8 x) := by rw [← e]; exact h4
  refine ⟨ad, rfl, ?_, h5⟩
  have := World.block_lt_of_cell? w _ h5
  rwa [add_block] at this
theorem parts_rd {w : World} {A : Option Addr} {l : List (List Int)} (h : Kd.C (Kd.slice 5 (Kd.int .u8)) w A l.length l) (hl : l ≠ []) : ∃ ad, A = some ad ∧ ∃ vs : List Value, vs.length = l.length ∧ (∀ (j : Nat) (v : Value), vs[j]? = some v → w.cell? (ad.add j) = some v) ∧ (∀ (j : Nat) (p : List Int) (v : Value), l[j]? = some p → vs[j]? = some v → RdB w w.heap.size v p) ∧ ∀ v ∈ vs, v.oneCell' = true := by
  have hpos : 0 < l.length := List.length_pos_iff.2 hl
  obtain ⟨ad, rfl, h2⟩ := h.2.2 hpos
  have key : ∀ (j : Nat) (p : List Int), l[j]? = some p → ∃ v, w.cell? (ad.add j) = some v ∧ RdB w w.heap.size v p ∧ v.oneCell' = true := by
    intro j p hj
    obtain ⟨cs, _, hK, h3⟩ := h2 j p hj
    obtain ⟨A1, c1, rfl, hl1, hC⟩ := hK
    have h4 := h3 0 _ rfl
    have e : (ad.add (j * 1 + 0)) = ad.add j := by rw [Nat.mul_one, Nat.add_zero]
    exact ⟨_, by rw [← e]; exact h4, bytes_rd hC hl1, rfl⟩
  refine ⟨ad, rfl, (List.range l.length).map (fun j => (w.cell? (ad.add j)).getD undef), by simp, fun j v hj => ?_, fun j p v hj hv => ?_, fun v hv => ?_⟩
  · rw [List.getElem?_map] at hj
    obtain ⟨i, hi, rfl⟩ := Option.map_eq_some_iff.1 hj
    have hlt : i < l.length := by have := List.mem_of_getElem? hi; simpa using this
    have : i = j := by
      have := (List.getElem?_eq_some_iff.1 hi).2
      simpa using this.symm
    subst this
    obtain ⟨v, h4, _⟩ := key i l[i] (List.getElem?_eq_getElem hlt)
    rw [h4]; rfl
  · rw [List.getElem?_map] at hv
    obtain ⟨i, hi, rfl⟩ := Option.map_eq_some_iff.1 hv
    have : i = j := by
      have := (List.getElem?_eq_some_iff.1 hi).2
      simpa using this.symm
    subst this
    obtain ⟨v, h4, h5, _⟩ := key i p hj
    rw [h4]; exact h5
  · obtain ⟨i, hi, rfl⟩ := List.mem_map.1 hv
    have hlt : i < l.length := by simpa using hi
    obtain ⟨v, h4, _, h6⟩ := key i l[i] (List.getElem?_eq_getElem hlt)
    rw [h4]; exact h6
theorem info29 : (Tryd.prog.info? 29).map (fun i => (i.zero, i.size, i.bytes)) = some (some (.slice none 0 0), 1, 24) := by kernel_rfl

/-- What copied gives. -/
def Parts (w : World) (M : Nat) (A : Option Addr) (c : Nat) (l : List (List Int)) : Prop :=
  l.length ≤ c ∧ (l ≠ [] → ∃ G cur, A = some ⟨G, 0, none⟩ ∧ M ≤ G ∧ w.heap[G]? = some (.cells cur 29 (0, 0)) ∧ ∀ (j : Nat) (p : List Int), l[j]? = some p → ∃ v, cur[j]? = some v ∧ RdB w M v p)
theorem append_nil_run (g c : Nat) (w : World) : (Builtin.append_ #[22, 22] 22 #[.slice (some ⟨g, 0, none⟩) 0 0, .slice none 0 c]).run Tryd.prog w = .ok (.slice (some ⟨g, 0, none⟩) 0 0) w := by kernel_rfl
theorem wpList_append_nil {w : World} {ops : Array Oper} {rest : List Oper} {o : Oper} {a : Act} {Q : Exit → Act → World → Prop} (hgd : o.guard = none) (s x : Operand) (hty : o.type = 22)
    (ho : o.op = .call { callee := .builtin .append, args := #[s, x], argTypes := #[22, 22] }) (g c : Nat) (hs : a.eval s = .slice (some ⟨g, 0, none⟩) 0 0) (hx : a.eval x = .slice none 0 c)
    (h : wpList Tryd.prog ops Q rest (a.put o.dst (.slice (some ⟨g, 0, none⟩) 0 0)) w) : wpList Tryd.prog ops Q (o :: rest) a w := by
  refine wpList_plain hgd fun K hK => ?_
  have hrun := append_nil_run g c w
  unfold Oper.wp
  simp [execOp, ho, hty, resolve, invoke, builtin, hs, hx, hrun, Result.andThen]
  exact hK _ _ h
set_option maxHeartbeats 2000000 in
set_option maxRecDepth 100000 in
theorem copied_any (w : World) (A0 : Option Addr) (c0 : Nat) (l : List (List Int)) (hC : Kd.C (Kd.slice 5 (Kd.int .u8)) w A0 l.length l) (hc : l.length ≤ c0) (hl : l.length ≤ 1000000) :
    Calls Tryd.prog 18 #[.slice A0 l.length c0] w fun e w' => ∃ A c, e = .returned (.slice A l.length c) ∧ Parts w' w.heap.size A c l ∧ Below w.heap.size w w' := by
  obtain ⟨i0, hi0, iz0, iz1, iz2⟩ := info_parts info29
  have b1 : Below w.heap.size w (w.alloc (.cells #[] 29)) := (Below.refl _ _).alloc (Nat.le_refl _) _
  have h1 := (MapKept.heap_alloc w (.cells #[] 29)).1
  have own0 : (w.alloc (.cells #[] 29)).ownsRow w.heap.size 29 1 (.slice (some ⟨w.heap.size, 0, none⟩) 0 0) 0 [] := ⟨rfl, .inr ⟨_, 0, #[], rfl, Nat.le_refl _, h1, Nat.le_refl _, by unfold maxLen; omega, rfl, rfl⟩⟩
  by_cases hn : l = []
  · subst hn
    cases A0 with
    | none =>
      go_enter Tryd.func18, Tryd.ntmps18
      go_wp2_with (at_builtin; go_must (refine wpList_append_nil rfl (.tmp 3) (.tmp 4) rfl rfl w.heap.size c0 rfl rfl ?_))
      go_ret
      exact ⟨_, _, rfl, ⟨Nat.le_refl _, fun h => absurd rfl h⟩, b1⟩
    | some ad =>
      go_enter Tryd.func18, Tryd.ntmps18
      go_wp2_with (at_builtin; go_must (refine wpList_append_own _ rfl (.tmp 3) (.tmp 4) 22 rfl w.heap.size 29 i0 _ 1 24 Tryd.underlying22 hi0 iz0 iz1 iz2 rfl (by decide) _ 0 [] rfl own0 ad 0 c0 [] rfl rfl (by simp) (by simp) (by unfold maxLen; omega) (by omega) (by simp) ?_; intro v8 w8 hown8 hg8 hnil8))
      go_ret
      obtain ⟨A, c, e⟩ := own_slice hown8
      subst e
      refine ⟨A, c, rfl, ⟨Nat.zero_le _, fun h => absurd rfl h⟩, b1.trans ⟨hg8.os, hg8.tape, hg8.output, hg8.size, fun k hk => hg8.block k (by simp; omega) (fun e => by have := Option.some.inj (show some k = some w.heap.size from e); omega)⟩⟩
  · obtain ⟨ad, rfl, vs, hvl, hvc, hvr, hv1⟩ := parts_rd hC hn
    have hnews : ∀ j u, vs[j]? = some u → (w.alloc (.cells #[] 29)).cell? (ad.add j) = some u := fun j u hj => (cell_kept (b1.block _ (by have := World.block_lt_of_cell? w _ (hvc j u hj); exact this))).trans (hvc j u hj)
    have hpos : 0 < l.length := List.length_pos_iff.2 hn
    go_enter Tryd.func18, Tryd.ntmps18
    go_wp2_with (at_builtin; go_must (refine wpList_append_own _ rfl (.tmp 3) (.tmp 4) 22 rfl w.heap.size 29 i0 _ 1 24 Tryd.underlying22 hi0 iz0 iz1 iz2 rfl (by decide) _ 0 [] rfl own0 ad l.length c0 vs rfl (by rw [hvl, Nat.mul_one]) hnews hv1 (by unfold maxLen; omega) (by omega) (by simp) ?_; intro v8 w8 hown8 hg8 hnil8))
    go_ret
    rw [Nat.zero_add, List.nil_append] at hown8
    obtain ⟨G, c, cur, e, hlc, hG, hMG, hcur⟩ := row_cells hown8 hpos
    subst e
    have hb : Below w.heap.size w w8 := b1.trans ⟨hg8.os, hg8.tape, hg8.output, hg8.size, fun k hk => hg8.block k (by simp; omega) (fun e => by have := Option.some.inj (show some k = some w.heap.size from e); omega)⟩
    refine ⟨_, c, rfl, ⟨hlc, fun _ => ⟨G, cur, rfl, hMG, hG, fun j p hj => ?_⟩⟩, hb⟩
    have hjl : j < vs.length := by rw [hvl]; exact (List.getElem?_eq_some_iff.1 hj).1
    exact ⟨vs[j], hcur j _ (List.getElem?_eq_getElem hjl), (hvr j p _ hj (List.getElem?_eq_getElem hjl)).kept hb.block⟩

theorem LaidE.up {w w' : World} {a : Addr} {M M' : Nat} (h : LaidE w a M) (hk : ∀ k, k < M → w'.heap[k]? = w.heap[k]?) (hM : M ≤ M') (hs : M' ≤ w'.heap.size) : LaidE w' a M' := by
  have h2 : LaidE w' a M := by
    refine ⟨h.any.kept (hk _ h.lo), ?_, h.lo, h.pos, by omega⟩
    have q := hk 0 h.pos
    have h2 := h.cell
    unfold World.cell? at h2 ⊢
    simp only at h2 ⊢
    rw [q]
    exact h2
  exact ⟨h2.any, h2.cell, Nat.lt_of_lt_of_le h2.lo hM, Nat.lt_of_lt_of_le h2.pos hM, hs⟩
/-- A parts' reader is made of what copied gave. -/
theorem PR.made {w : World} {M c : Nat} {A : Option Addr} {fails : Bool} {l : List (List Int)} (h : Parts w M A c l) (hM : M ≤ w.heap.size) : PR (w.alloc (.cells #[.slice A l.length c, .bool fails, .bool false] 52)) M w.heap.size fails l := by
  refine ⟨hM, A, c, (MapKept.heap_alloc w _).1, h.1, fun hl => ?_⟩
  obtain ⟨G, cur, e, h1, h2, h3⟩ := h.2 hl
  refine ⟨G, 0, cur, e, h1, (Below.heap_alloc _ _ _ (ltH h2)).trans h2, fun j p hj => ?_⟩
  obtain ⟨v, h4, h5⟩ := h3 j p hj
  exact ⟨v, by rw [Nat.zero_add]; exact h4, h5.kept (fun k hk => Below.heap_alloc _ _ _ (by omega))⟩
theorem own_mono {w : World} {b b' e size n : Nat} {v : Value} {xs : List Value} (h : w.ownsRow b e size v n xs) (hb : b' ≤ b) : w.ownsRow b' e size v n xs := by
  obtain ⟨h1, h2⟩ := h
  rcases h2 with h2 | ⟨g, cap, cur, rfl, hg, r⟩
  · exact ⟨h1, .inl h2⟩
  · exact ⟨h1, .inr ⟨g, cap, cur, rfl, Nat.le_trans hb hg, r⟩⟩
theorem new19 (w : World) (iv : Value) : Calls Tryd.prog 19 #[.iface 49 iv] w fun e w' => e = .returned (.pointer (some ⟨w.heap.size, 0, none⟩)) ∧ w' = w.alloc (.cells #[.iface 49 iv, .int .i64 0, .slice none 0 0] 71) := by
  go_enter Tryd.func19, Tryd.ntmps19
  go_wp2
  go_ret
  exact ⟨rfl, rfl⟩
theorem new21 (w : World) (iv : Value) (n : Nat) (hn : n ≤ 5000) : Calls Tryd.prog 21 #[.iface 49 iv, .int .i64 (n : Int)] w fun e w' => ∃ B vb, e = .returned (.pointer (some ⟨B, 0, none⟩)) ∧ w.heap.size ≤ B ∧ w'.heap[B]? = some (.cells #[.iface 49 iv, .int .i64 0, vb] 71 (0, 0)) ∧ w'.ownsRow w.heap.size 5 1 vb 0 [] ∧ Below w.heap.size w w' := by
  obtain ⟨j0, hj0, jz0, jz1, jz2⟩ := info_parts info5
  go_enter Tryd.func21, Tryd.ntmps21
  go_wp2_with (at_make; go_must (refine wpList_make_own _ rfl (.const (.int .i64 0)) (.tmp 6) 29 rfl w.heap.size 5 j0 _ 1 Tryd.underlying29 hj0 jz0 jz1 .i64 .i64 (n : Int) n rfl rfl rfl (by rw [jz2]; omega) (by unfold maxLen; omega) (Nat.le_refl _) ?_; intro w3 hmk hg3))
  go_ret
  have hs := hg3.size
  refine ⟨_, _, rfl, hs, (MapKept.heap_alloc w3 _).1, hmk.alloc _, ?_⟩
  exact Below.trans ⟨hg3.os, hg3.tape, hg3.output, hg3.size, fun k hk => hg3.block k hk (by simp)⟩ ((Below.refl _ _).alloc hs _)
set_option maxHeartbeats 4000000 in
set_option maxRecDepth 100000 in
theorem repeat_any (w : World) (a : Addr) (M0 : Nat) (A0 : Option Addr) (c0 : Nat) (l : List (List Int)) (fails : Bool) (size : Int) (A1 : Option Addr) (c1 : Nat) (steps : List S32) (hL : LaidE w a M0) (hC : Kd.C (Kd.slice 5 (Kd.int .u8)) w A0 l.length l) (hc : l.length ≤ c0) (hl : l.length ≤ 30) (hp : ∀ p ∈ l, p.length ≤ 100000) (hsize : size ≤ 5000)
    (hS : Kd.C k32 w A1 steps.length steps) (hc1 : steps.length ≤ c1) (hl60 : steps.length ≤ 60) (hok : ∀ s ∈ steps, okR s) :
    Calls Tryd.prog 10 #[.slice A0 l.length c0, .bool fails, .int .i64 size, .bool false, .slice A1 steps.length c1] w fun e w' => ∃ v xs, e = .returned v ∧ xs.map (·.2) = runR fails (l, [], 0) steps ∧ (∃ vb, Outs w' w.heap.size vb v xs) ∧ Below w.heap.size w w' := by
  obtain ⟨M, hM⟩ : ∃ M, w.heap.size = M := ⟨_, rfl⟩
  have hcp := copied_any w A0 c0 l hC hc (by omega)
  rw [hM] at hcp ⊢
  have hHM := Lib.hid hM
  have hcm : ∀ w' : World, Below M w w' → Kd.C k32 w' A1 steps.length steps := fun w' hb => Kd.C_below hS (by rw [hM]; exact hb)
  have fin := fun (w3 : World) (B Q : Nat) (vb : Value) (hR : RR w3 M B Q fails l [] 0 vb) (hb : Below M w w3) (hs : M ≤ w3.heap.size) => rsteps M B Q c1 fails A1 steps (l, [], 0) vb w3 a hR (hL.up (fun k hk => hb.block k (Nat.lt_of_lt_of_le hk (by have := hL.le; omega))) (by have := hL.le; omega) hs) hs (hcm w3 hb) hc1 hl60 (fun w' hb' => hcm w' (hb.trans hb')) hok hp (by simp; omega) (by simp)
  clear hM
  have done : ∀ (w2 : World) (A : Option Addr) (c : Nat), Parts w2 M A c l → Below M w w2 → M ≤ w2.heap.size → ∀ (w3 : World) (B : Nat) (vb : Value), w2.heap.size + 1 ≤ B → w3.heap[B]? = some (.cells #[.iface 49 (.pointer (some ⟨w2.heap.size, 0, none⟩)), .int .i64 0, vb] 71 (0, 0)) → w3.ownsRow (w2.heap.size + 1) 5 1 vb 0 [] → Below (w2.heap.size + 1) (w2.alloc (.cells #[.slice A l.length c, .bool fails, .bool false] 52)) w3 →
      RR w3 M B w2.heap.size fails l [] 0 vb ∧ Below M w w3 ∧ M ≤ w3.heap.size := by
    intro w2 A c hPa hb hs w3 B vb hB hB3 hvb hb3
    have hz : (w2.alloc (.cells #[.slice A l.length c, .bool fails, .bool false] 52)).heap.size = w2.heap.size + 1 := by simp
    have hs3 := hb3.size
    have hP := PR.made (fails := fails) hPa hs
    refine ⟨⟨hB3, hP.moved (fun k hk => hb3.block k ?_), own_mono hvb (by omega), Nat.zero_le _, by omega⟩, hb.trans (((Below.refl _ _).alloc hs _).trans (hb3.mono (by omega))), by omega⟩
    rcases hk with hk | ⟨c, t, hc, _⟩
    · omega
    · have := ltH hc; omega
  have hl30 := Lib.hid hl
  clear hl
  by_cases hs0 : size < 0
  · have hs0b : decide (size < 0) = true := decide_eq_true hs0
    go_enter Tryd.func10, Tryd.ntmps10
    go_wp2_with (first
      | (go_at_call 18; go_must (refine hcp.mono ?_; rintro e w2 ⟨A, c, rfl, hPa, hb2⟩); have hs2 : M ≤ w2.heap.size := (by have := hb2.size; have := hHM.out; omega))
      | (go_at_call 19; go_must (refine (new19 _ _).mono ?_; rintro e w3 ⟨rfl, hw3⟩); have hd := done w2 A c hPa hb2 hs2 w3 (w2.heap.size + 1) (.slice none 0 0) (Nat.le_refl _) (by rw [hw3]; have := (MapKept.heap_alloc (w2.alloc (.cells #[.slice A l.length c, .bool fails, .bool false] 52)) (.cells #[.iface 49 (.pointer (some ⟨w2.heap.size, 0, none⟩)), .int .i64 0, .slice none 0 0] 71)).1; simpa using this) (own_nil _ _ _ _) (by rw [hw3]; exact (Below.refl _ _).alloc (by simp) _); clear hw3)
      | (go_at_call 22; go_must (refine (fin w3 (w2.heap.size + 1) w2.heap.size (.slice none 0 0) hd.1 hd.2.1 hd.2.2).mono ?_; rintro e w9 ⟨v, xs, rfl, h1, h2, h3⟩)))
    go_ret
    exact ⟨_, xs, rfl, h1, h2, hd.2.1.trans h3⟩
  · have hs0b : decide (size < 0) = false := decide_eq_false hs0
    obtain ⟨n, hn⟩ : ∃ n : Nat, size = (n : Int) := ⟨size.toNat, by omega⟩
    subst hn
    go_enter Tryd.func10, Tryd.ntmps10
    go_wp2_with (first
      | (go_at_call 18; go_must (refine hcp.mono ?_; rintro e w2 ⟨A, c, rfl, hPa, hb2⟩); have hs2 : M ≤ w2.heap.size := (by have := hb2.size; have := hHM.out; omega))
      | (go_at_call 21; go_must (refine (new21 _ _ n (by omega)).mono ?_; rintro e w3 ⟨B, vb, rfl, hB, hB3, hvb, hb3⟩); have hz : (w2.alloc (.cells #[.slice A l.length c, .bool fails, .bool false] 52)).heap.size = w2.heap.size + 1 := (by simp); have hd := (by rw [hz] at hB hvb hb3; exact done w2 A c hPa hb2 hs2 w3 B vb hB hB3 hvb hb3))
      | (go_at_call 22; go_must (refine (fin w3 B w2.heap.size vb hd.1 hd.2.1 hd.2.2).mono ?_; rintro e w9 ⟨v, xs, rfl, h1, h2, h3⟩)))
    go_ret
    exact ⟨_, xs, rfl, h1, h2, hd.2.1.trans h3⟩
end Go.Proofs.YtgbcmjbiddkldaaDoor.Given
