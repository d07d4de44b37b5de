/- The contract of impl.partsReader.Read: it reads one part, or as much of it as there is room for; then its end, or its own error. Up to 1,000,000 bytes. -/
import Derived.Test.YtgbcmjbiddkldaaDoorPd
namespace Go.Proofs.YtgbcmjbiddkldaaDoor.Given
open Go.RowKit Go.Proofs.YtgbcmjbiddkldaaDoorW.PrintWords Go.Proofs.YtgbcmjbiddkldaaDoor.PR
set_option linter.unusedVariables false
set_option linter.unusedSimpArgs false


/-- All blocks but g stay, and the sizes. -/
structure Same (g : Nat) (w w' : World) : Prop where
  os : w'.os = w.os
  tape : w'.tape = w.tape
  output : w'.output = w.output
  size : w'.heap.size = w.heap.size
  block : ∀ k, k ≠ g → w'.heap[k]? = w.heap[k]?
theorem Same.fr {M g : Nat} {w w' : World} (h : Same g w w') : Fr M g w w' := ⟨h.os, h.tape, h.output, by rw [h.size]; exact Nat.le_refl _, fun k _ hk _ => h.block k hk⟩
theorem PR.drew {w : World} {M Q : Nat} {fails : Bool} {ps : List (List Int)} (h : PR w M Q fails ps) : PR w.drew M Q fails ps := h
theorem Fr.drew {M D : Nat} {a b : World} (h : Fr M D a b) : Fr M D a b.drew := ⟨h.os, h.tape, h.output, h.size, h.block⟩
theorem wpList_copy_all {P : Program} {w : World} {ops : Array Oper} {rest : List Oper} {o : Oper} {a : Act} {Q : Exit → Act → World → Prop} (hgd : o.guard = none) (d s : Operand) (dT sT : TypeId)
    (ho : o.op = .call { callee := .builtin .copy, args := #[d, s], argTypes := #[dT, sT] }) (elem : TypeId) (hu : P.underlying dT = some (.slice elem)) (hsz : (P.info? elem).map (·.size) = some 1)
    (A0 : Option Addr) (g off dLen dCap sLen sCap : Nat) (hd : a.eval d = .slice (some ⟨g, off, none⟩) dLen dCap) (hs : a.eval s = .slice A0 sLen sCap)
    (cur : List Value) (t : TypeId) (hg : w.heap[g]? = some (.cells cur.toArray t (0, 0))) (cs : List Value) (k : Nat) (hk : cs.length = k) (hn : k = Nat.min sLen dLen)
    (hsrc : ∀ j v, cs[j]? = some v → ∃ ad, A0 = some ad ∧ w.cell? (ad.add j) = some v)
    (hfit : off + k ≤ cur.length) (h1 : ∀ v ∈ cs, v.oneCell' = true)
    (h : ∀ w', Hid (w'.heap[g]? = some (.cells (splice cur off cs).toArray t (0, 0))) → Same g w w' → wpList P ops Q rest (a.put o.dst (.int .i64 (k : Int))) w') :
    wpList P ops Q (o :: rest) a w := by
  subst hk
  by_cases h0 : cs.length = 0
  · obtain rfl : cs = [] := List.eq_nil_of_length_eq_zero h0
    refine wpList_copy_nothing hgd d s dT sT ho elem hu hsz (some ⟨g, off, none⟩) A0 dLen dCap sLen sCap hd hs (by simpa using hn.symm) ?_
    exact h w (show _ = _ by simpa [splice] using hg) ⟨rfl, rfl, rfl, rfl, fun _ _ => rfl⟩
  · obtain ⟨ad, rfl, _⟩ := hsrc 0 cs[0] (by simp)
    refine wpList_copy_own hgd d s dT sT ho elem hu hsz g off dLen dCap ad sLen sCap hd hs cur.toArray t hg cs hn (fun j v hj => by obtain ⟨ad', e, h2⟩ := hsrc j v hj; cases e; exact h2) (by simpa using hfit) h1 ?_
    exact h _ (show _ = _ by simpa [splice] using setRow_heap w g _ _ t _ hg) ⟨rfl, rfl, rfl, by simp [World.setRow], fun k hk => setRow_other w g k _ hk⟩
theorem sz5 : (Tryd.prog.info? 5).map (·.size) = some 1 := by kernel_rfl

set_option maxHeartbeats 2000000 in
theorem pread_end (M Q D off n c : Nat) (fails : Bool) (cur : List Value) (w : World) (a : Addr) (hP : PR w M Q fails []) (hD : w.heap[D]? = some (.cells cur.toArray 5 (0, 0))) (hL : LaidE w a M) :
    Calls Tryd.prog 45 #[.pointer (some ⟨Q, 0, none⟩), .slice (some ⟨D, off, none⟩) n c] w fun e w' => ∃ v, e = .returned (.tuple #[.int .i64 ((rdP fails n []).1.length : Int), v]) ∧ ErrS a (rdP fails n []).2.1 v ∧ PR w' M Q fails (rdP fails n []).2.2 ∧
      w'.heap[D]? = some (.cells (splice cur off (byV (rdP fails n []).1)).toArray 5 (0, 0)) ∧ Fr M D w w' := by
  obtain ⟨hMQ, A, c1, hQ, hl, _⟩ := hP
  have hs : splice cur off (byV ([] : List Int)) = cur := by simp [splice, byV]
  have x0 := cellH hQ 0 (.slice A 0 c1) rfl
  have x1 := cellH hQ 1 (.bool fails) rfl
  have hc := hL.cell
  cases fails with
  | true =>
    go_enter Tryd.func45, Tryd.ntmps45
    go_wp2
    go_ret2
    exact ⟨ownV, rfl, .inr (.inr ⟨rfl, rfl⟩), ⟨hMQ, A, c1, hQ, hl, fun h => absurd rfl h⟩, by rw [show (rdP true n []).1 = [] from rfl, hs]; exact hD, Fr.refl _ _ _⟩
  | false =>
    go_enter Tryd.func45, Tryd.ntmps45
    go_wp2
    go_quiet (fail)
    go_wp2
    go_ret2
    refine ⟨evA a, rfl, .inr (.inl ⟨rfl, rfl⟩), ⟨hMQ, A, c1, hQ, hl, fun h => absurd rfl h⟩, by rw [show (rdP false n []).1 = [] from rfl, hs]; exact hD, ?_⟩
    exact ⟨rfl, rfl, rfl, Nat.le_refl _, fun _ _ _ _ => rfl⟩

set_option maxHeartbeats 4000000 in
set_option maxRecDepth 100000 in
theorem pread_part (M Q D off n c : Nat) (fails : Bool) (p : List Int) (r : List (List Int)) (cur : List Value) (w : World) (a : Addr) (hP : PR w M Q fails (p :: r)) (hD : w.heap[D]? = some (.cells cur.toArray 5 (0, 0))) (hn : 1 ≤ n) (hn6 : n ≤ 1000000) (hfit : off + n ≤ cur.length) (hMD : M ≤ D) (hL : LaidE w a M)
    (hp6 : p.length ≤ 1000000) (hr6 : r.length ≤ 1000000) :
    Calls Tryd.prog 45 #[.pointer (some ⟨Q, 0, none⟩), .slice (some ⟨D, off, none⟩) n c] w fun e w' => e = .returned (.tuple #[.int .i64 ((p.take n).length : Int), .nilIface]) ∧ PR w' M Q fails (if p.length ≤ n then r else p.drop n :: r) ∧
      w'.heap[D]? = some (.cells (splice cur off (byV (p.take n))).toArray 5 (0, 0)) ∧ Fr M D w w' := by
  obtain ⟨hMQ, A, c1, hQ, hl, hps⟩ := hP
  obtain ⟨G, o0, gcs, rfl, hMG, hG, hcs⟩ := hps (by simp)
  obtain ⟨v0, hv0, A0, c0, rfl, hc0, hrd⟩ := hcs 0 p rfl
  simp only [List.length_cons] at hQ hl
  have x0 := cellH hQ 0 (.slice (some ⟨G, o0, none⟩) (r.length + 1) c1) rfl
  have y0 := cellH hG o0 (.slice A0 p.length c0) (by simpa using hv0)
  have hQD : Q ≠ D := neT hQ hD (by decide)
  have hGD : G ≠ D := neT hG hD (by decide)
  have hQG : Q ≠ G := neT hQ hG (by decide)
  obtain ⟨k, hk⟩ : ∃ k, (p.take n).length = k := ⟨_, rfl⟩
  have hk' : k = Nat.min p.length n := by rw [← hk, List.length_take]; exact Nat.min_comm _ _
  have hkp : k ≤ p.length := by rw [hk']; exact Nat.min_le_left _ _
  have hbv : (byV (p.take n)).length = k := by rw [byV_len, hk]
  have hsrc : ∀ j v, (byV (p.take n))[j]? = some v → ∃ ad, A0 = some ad ∧ w.cell? (ad.add j) = some v := by
    intro j v hj
    obtain ⟨x, h1, rfl⟩ := byV_get hj
    rw [List.getElem?_take] at h1
    split at h1
    · obtain ⟨ad, h2, _, h3⟩ := hrd j x h1
      exact ⟨ad, h2, h3⟩
    · cases h1
  have hkn : k ≤ n := by rw [hk']; exact Nat.min_le_right _ _
  have hfit' : off + k ≤ cur.length := by omega
  have hcur : o0 < gcs.size := by
    have := (Array.getElem?_eq_some_iff.1 hv0).1
    omega
  have hzl : ((r.length : Int) + 1 == 0) = false := by
    rw [beq_eq_false_iff_ne]; omega
  obtain ⟨A', hA'⟩ : ∃ A', (if c0 = k then A0 else A0.map (·.add (k * 1))) = A' := ⟨_, rfl⟩
  have hdr := drop_parts (w := w) (M := M) (A := A0) (c := c0) (k := k) hkp hc0 hrd
  rw [hA'] at hdr
  have hpk : p.drop k = p.drop n := by
    by_cases h : p.length ≤ n
    · rw [hk', show Nat.min p.length n = p.length from Nat.min_eq_left h, List.drop_eq_nil_of_le h, List.drop_eq_nil_of_le (Nat.le_refl _)]
    · rw [hk', show Nat.min p.length n = n from Nat.min_eq_right (by omega)]
  -- the heap behind the first store
  have hG2 : ∀ w1 : World, Same D w w1 → (w1.setCell ⟨G, o0, none⟩ (.slice A' (p.length - k) (c0 - k))).heap[G]? = some (.cells (gcs.set o0 (.slice A' (p.length - k) (c0 - k)) hcur) 29 (0, 0)) := fun w1 hs => setH ((hs.block G hGD).trans hG) o0 _ hcur
  have fin1 : ∀ w1 : World, Same D w w1 → ¬ p.length ≤ n → PR (w1.setCell ⟨G, o0, none⟩ (.slice A' (p.length - k) (c0 - k))) M Q fails (p.drop n :: r) := by
    intro w1 hs hlt
    have kp : ∀ j, j ≠ D → j ≠ G → (w1.setCell ⟨G, o0, none⟩ (.slice A' (p.length - k) (c0 - k))).heap[j]? = w.heap[j]? := fun j h1 h2 => (Below.heap_setCell _ _ _ j h2).trans (hs.block j h1)
    have kM : ∀ j, j < M → (w1.setCell ⟨G, o0, none⟩ (.slice A' (p.length - k) (c0 - k))).heap[j]? = w.heap[j]? := fun j hj => kp j (by omega) (by omega)
    refine ⟨hMQ, _, c1, (kp Q hQD hQG).trans hQ, hl, fun _ => ⟨G, o0, _, rfl, hMG, hG2 w1 hs, fun j q hj => ?_⟩⟩
    rcases j with _ | j
    · simp at hj
      subst hj
      refine ⟨.slice A' (p.length - k) (c0 - k), by simp [hcur], ?_⟩
      rw [← hpk]
      exact hdr.kept kM
    · obtain ⟨v, h1, h2⟩ := hcs (j + 1) q (by simpa using hj)
      refine ⟨v, ?_, h2.kept kM⟩
      rw [Array.getElem?_set_ne _ (by omega)]
      exact h1
  have fin2 : ∀ w1 : World, Same D w w1 → p.length ≤ n → PR ((w1.setCell ⟨G, o0, none⟩ (.slice A' (p.length - k) (c0 - k))).setCell ⟨Q, 0, none⟩ (.slice (if c1 = 1 then some ⟨G, o0, none⟩ else some ⟨G, o0 + 1, none⟩) r.length (c1 - 1))) M Q fails r := by
    intro w1 hs hlt
    have kp : ∀ j, j ≠ D → j ≠ G → (w1.setCell ⟨G, o0, none⟩ (.slice A' (p.length - k) (c0 - k))).heap[j]? = w.heap[j]? := fun j h1 h2 => (Below.heap_setCell _ _ _ j h2).trans (hs.block j h1)
    have kM : ∀ j, j < M → ((w1.setCell ⟨G, o0, none⟩ (.slice A' (p.length - k) (c0 - k))).setCell ⟨Q, 0, none⟩ (.slice (if c1 = 1 then some ⟨G, o0, none⟩ else some ⟨G, o0 + 1, none⟩) r.length (c1 - 1))).heap[j]? = w.heap[j]? := fun j hj => (Below.heap_setCell _ _ _ j (by simp; omega)).trans (kp j (by omega) (by omega))
    have hQ2 := setH ((kp Q hQD hQG).trans hQ) 0 (.slice (if c1 = 1 then some ⟨G, o0, none⟩ else some ⟨G, o0 + 1, none⟩) r.length (c1 - 1)) (by simp)
    refine ⟨hMQ, _, _, hQ2, by omega, fun hr => ⟨G, o0 + 1, _, ?_, hMG, (Below.heap_setCell _ _ _ _ (fun e => hQG e.symm)).trans (hG2 w1 hs), fun j q hj => ?_⟩⟩
    · rw [if_neg]
      intro e
      cases r with
      | nil => exact hr rfl
      | cons x y => simp at hl; omega
    · obtain ⟨v, h1, h2⟩ := hcs (j + 1) q (by simpa using hj)
      refine ⟨v, ?_, h2.kept kM⟩
      rw [Array.getElem?_set_ne _ (by omega), Nat.add_assoc, Nat.add_comm 1 j]
      exact h1
  have frA : ∀ w1 : World, Same D w w1 → Fr M D w (w1.setCell ⟨G, o0, none⟩ (.slice A' (p.length - k) (c0 - k))) := by
    intro w1 hs
    refine ⟨hs.os, hs.tape, hs.output, by simp [hs.size], fun j hj h1 h2 => (Below.heap_setCell _ _ _ j ?_).trans (hs.block j h1)⟩
    rintro rfl
    rcases h2 with h2 | ⟨_, _, h2, _, h3⟩
    · omega
    · rw [hG] at h2; cases h2; exact h3 rfl
  have frB : ∀ (w1 : World) (v : Value), Same D w w1 → Fr M D w ((w1.setCell ⟨G, o0, none⟩ (.slice A' (p.length - k) (c0 - k))).setCell ⟨Q, 0, none⟩ v) := by
    intro w1 v hs
    have f := frA w1 hs
    refine ⟨f.os, f.tape, f.output, by simpa using f.size, fun j hj h1 h2 => (Below.heap_setCell _ _ _ j ?_).trans (f.block j hj h1 h2)⟩
    rintro rfl
    rcases h2 with h2 | ⟨_, _, h2, h3, _⟩
    · omega
    · rw [hQ] at h2; cases h2; exact h3 rfl
  clear hps hcs hrd hv0 hdr
  have hHb := Lib.hid hbv
  have hHk := Lib.hid hk'
  obtain ⟨ps', hps'⟩ : ∃ ps', (if p.length ≤ n then r else p.drop n :: r) = ps' := ⟨_, rfl⟩
  rw [hps', hk]
  have hHps := Lib.hid hps'
  clear hk hk' hbv hps'
  go_enter Tryd.func45, Tryd.ntmps45
  go_wp2_with (refine wpList_copy_all (o := { dst := some 27, op := Go.Op.call { callee := Go.Callee.builtin Go.Builtin.copy, args := #[Go.Operand.tmp 20, Go.Operand.tmp 26], argTypes := #[29, 29] }, type := 3, pos := "readers.go:103", after := #[{ on := 0, ground := Go.Ground.data }, { on := 6, ground := Go.Ground.data }], guard := none }) rfl (.tmp 20) (.tmp 26) 29 29 rfl 5 Tryd.underlying29 sz5 A0 D off n c p.length c0 rfl rfl cur 5 hD (byV (p.take n)) k hHb.out hHk.out hsrc hfit' (byV_one _) ?_; intro w1 hD1 hS1)
  have z0 := cellH ((hS1.block Q hQD).trans hQ) 0 (.slice (some ⟨G, o0, none⟩) (r.length + 1) c1) rfl
  have z1 := (cell_kept (a := ⟨G, o0, none⟩) (hS1.block G hGD)).trans y0
  have u1 := frozenH ((hS1.block G hGD).trans hG) o0
  have k0 : (0 : Int) ≤ (k : Int) := by omega
  have kp : (k : Int) ≤ (p.length : Int) := by omega
  have hA2 : (if c0 = k then A0 else Option.map (fun x => x.add k) A0) = A' := by rw [← hA']; simp
  have hHQ := Lib.hid hQ
  clear hA' hfit' hkn hsrc hG hQ hD hn hn6 hfit x0 y0
  go_upto_region 6 with fail
  refine wp_region_noPanic ?_
  refine wp_region_held_drew (S := (fun w' => w'.cell? ⟨Q, 0, none⟩ = some (.slice (some ⟨G, o0, none⟩) (r.length + 1) c1))) (by kernel_rfl) ?h16 (fun hHeld => ?k16)
  case h16 => ((try dsimp only); (first | assumption | (exact (World.cell?_setCell_far _ ⟨G, o0, none⟩ ⟨Q, 0, none⟩ _ (fun e => hQG e.symm)).trans z0) | go_keep))
  refine wpAnyH_take (i := 0) (oi := { dst := some 28, op := Go.Op.move (Go.Operand.tmp 0), type := 49, pos := "readers.go:104", after := #[], guard := none }) (v := ?v17) rfl (by kernel_rfl) (by kernel_rfl) (by kernel_rfl) (fun _ _ _ h => h) (Or.inl ⟨by rfl, ?y17⟩) (by assumption) ?r17
  case y17 => (intro w hSw; (try dsimp only at hSw); first | (go_simp; done) | (go_simp; with_reducible rfl))
  try simp only [Act.put, List.setIfInBounds_toArray, List.set_cons_zero, List.set_cons_succ]
  refine wpAnyH_take (i := 1) (oi := { dst := some 29, op := Go.Op.nilCheck (Go.Operand.tmp 28), type := 0, pos := "readers.go:104", after := #[{ on := 0, ground := Go.Ground.data }], guard := none }) (v := ?v18) rfl (by kernel_rfl) (by kernel_rfl) (by kernel_rfl) (fun _ _ _ h => h) (Or.inl ⟨by rfl, ?y18⟩) (by assumption) ?r18
  case y18 => (intro w hSw; (try dsimp only at hSw); first | (go_simp; done) | (go_simp; with_reducible rfl))
  try simp only [Act.put, List.setIfInBounds_toArray, List.set_cons_zero, List.set_cons_succ]
  refine wpAnyH_take (i := 2) (oi := { dst := some 30, op := Go.Op.fieldAddr 52 (Go.Operand.tmp 29) 0, type := 0, pos := "readers.go:104", after := #[{ on := 1, ground := Go.Ground.data }], guard := none }) (v := ?v19) rfl (by kernel_rfl) (by kernel_rfl) (by kernel_rfl) (fun _ _ _ h => h) (Or.inl ⟨by rfl, ?y19⟩) (by assumption) ?r19
  case y19 => (intro w hSw; (try dsimp only at hSw); first | (go_simp; done) | (go_simp; with_reducible rfl))
  try simp only [Act.put, List.setIfInBounds_toArray, List.set_cons_zero, List.set_cons_succ]
  refine wpAnyH_take (i := 3) (oi := { dst := some 31, op := Go.Op.load 22 (Go.Operand.tmp 30), type := 22, pos := "readers.go:104", after := #[{ on := 2, ground := Go.Ground.data }], guard := none }) (v := ?v20) rfl (by kernel_rfl) (by kernel_rfl) (by kernel_rfl) (fun _ _ _ h => h) (Or.inl ⟨by rfl, ?y20⟩) (by assumption) ?r20
  case y20 => (intro w hSw; (try dsimp only at hSw); first | (go_simp; done) | (go_simp; with_reducible rfl))
  try simp only [Act.put, List.setIfInBounds_toArray, List.set_cons_zero, List.set_cons_succ]
  refine wpAnyH_take (i := 4) (oi := { dst := some 32, op := Go.Op.move (Go.Operand.tmp 0), type := 49, pos := "readers.go:104", after := #[], guard := none }) (v := ?v21) rfl (by kernel_rfl) (by kernel_rfl) (by kernel_rfl) (fun _ _ _ h => h) (Or.inl ⟨by rfl, ?y21⟩) (by assumption) ?r21
  case y21 => (intro w hSw; (try dsimp only at hSw); first | (go_simp; done) | (go_simp; with_reducible rfl))
  try simp only [Act.put, List.setIfInBounds_toArray, List.set_cons_zero, List.set_cons_succ]
  refine wpAnyH_take (i := 5) (oi := { dst := some 33, op := Go.Op.nilCheck (Go.Operand.tmp 32), type := 0, pos := "readers.go:104", after := #[{ on := 4, ground := Go.Ground.data }], guard := none }) (v := ?v22) rfl (by kernel_rfl) (by kernel_rfl) (by kernel_rfl) (fun _ _ _ h => h) (Or.inl ⟨by rfl, ?y22⟩) (by assumption) ?r22
  case y22 => (intro w hSw; (try dsimp only at hSw); first | (go_simp; done) | (go_simp; with_reducible rfl))
  try simp only [Act.put, List.setIfInBounds_toArray, List.set_cons_zero, List.set_cons_succ]
  refine wpAnyH_take (i := 6) (oi := { dst := some 34, op := Go.Op.fieldAddr 52 (Go.Operand.tmp 33) 0, type := 0, pos := "readers.go:104", after := #[{ on := 5, ground := Go.Ground.data }], guard := none }) (v := ?v23) rfl (by kernel_rfl) (by kernel_rfl) (by kernel_rfl) (fun _ _ _ h => h) (Or.inl ⟨by rfl, ?y23⟩) (by assumption) ?r23
  case y23 => (intro w hSw; (try dsimp only at hSw); first | (go_simp; done) | (go_simp; with_reducible rfl))
  try simp only [Act.put, List.setIfInBounds_toArray, List.set_cons_zero, List.set_cons_succ]
  refine wpAnyH_take (i := 7) (oi := { dst := some 35, op := Go.Op.load 22 (Go.Operand.tmp 34), type := 22, pos := "readers.go:104", after := #[{ on := 6, ground := Go.Ground.data }], guard := none }) (v := ?v24) rfl (by kernel_rfl) (by kernel_rfl) (by kernel_rfl) (fun _ _ _ h => h) (Or.inl ⟨by rfl, ?y24⟩) (by assumption) ?r24
  case y24 => (intro w hSw; (try dsimp only at hSw); first | (go_simp; done) | (go_simp; with_reducible rfl))
  try simp only [Act.put, List.setIfInBounds_toArray, List.set_cons_zero, List.set_cons_succ]
  refine wpAnyH_take (i := 8) (oi := { dst := some 36, op := Go.Op.indexAddr 22 (Go.Operand.tmp 35) (Go.Operand.const (Go.Value.int Go.IntKind.i64 0)), type := 0, pos := "readers.go:104", after := #[{ on := 7, ground := Go.Ground.data }], guard := none }) (v := ?v25) rfl (by kernel_rfl) (by kernel_rfl) (by kernel_rfl) (fun _ _ _ h => h) (Or.inl ⟨by rfl, ?y25⟩) (by assumption) ?r25
  case y25 => (intro w hSw; (try dsimp only at hSw); first | (go_simp; done) | (go_simp; with_reducible rfl))
  try simp only [Act.put, List.setIfInBounds_toArray, List.set_cons_zero, List.set_cons_succ]
  refine wpAnyH_take (i := 10) (oi := { dst := some 38, op := Go.Op.move (Go.Operand.tmp 6), type := 3, pos := "readers.go:104", after := #[], guard := none }) (v := ?v26) rfl (by kernel_rfl) (by kernel_rfl) (by kernel_rfl) (fun _ _ _ h => h) (Or.inl ⟨by rfl, ?y26⟩) (by assumption) ?r26
  case y26 => (intro w hSw; (try dsimp only at hSw); first | (go_simp; done) | (go_simp; with_reducible rfl))
  try simp only [Act.put, List.setIfInBounds_toArray, List.set_cons_zero, List.set_cons_succ]
  refine wpAnyH_ready (rs := [9]) (by kernel_rfl) (by simp) ?_
  refine AllReadyH.cons (o := { dst := some 37, op := Go.Op.load 29 (Go.Operand.tmp 36), type := 29, pos := "readers.go:104", after := #[{ on := 8, ground := Go.Ground.data }], guard := none }) rfl (fun K hK => ?s27) ?m27
  case m27 => exact AllReadyH.nil
  go_simp
  refine hK.out _ _ ?h27 (fun hHeld => ?k27)
  case h27 => ((try dsimp only); (first | assumption | (exact (World.cell?_setCell_far _ ⟨G, o0, none⟩ ⟨Q, 0, none⟩ _ (fun e => hQG e.symm)).trans z0) | go_keep))
  clear hK K
  try simp only [Act.put, List.setIfInBounds_toArray, List.set_cons_zero, List.set_cons_succ]
  refine wpAnyH_ready (rs := [11]) (by kernel_rfl) (by simp) ?_
  refine AllReadyH.cons (o := { dst := some 39, op := Go.Op.slice 29 (Go.Operand.tmp 37) (some (Go.Operand.tmp 38)) none none, type := 29, pos := "readers.go:104", after := #[{ on := 9, ground := Go.Ground.data }, { on := 10, ground := Go.Ground.data }], guard := none }) rfl (fun K hK => ?s28) ?m28
  case m28 => exact AllReadyH.nil
  go_simp
  refine hK.out _ _ ?h28 (fun hHeld => ?k28)
  case h28 => ((try dsimp only); (first | assumption | (exact (World.cell?_setCell_far _ ⟨G, o0, none⟩ ⟨Q, 0, none⟩ _ (fun e => hQG e.symm)).trans z0) | go_keep))
  clear hK K
  try simp only [Act.put, List.setIfInBounds_toArray, List.set_cons_zero, List.set_cons_succ]
  refine wpAnyH_take (i := 12) (oi := { dst := some 40, op := Go.Op.indexAddr 22 (Go.Operand.tmp 31) (Go.Operand.const (Go.Value.int Go.IntKind.i64 0)), type := 0, pos := "readers.go:104", after := #[{ on := 3, ground := Go.Ground.data }, { on := 0, ground := Go.Ground.phase }, { on := 1, ground := Go.Ground.phase }, { on := 2, ground := Go.Ground.phase }, { on := 3, ground := Go.Ground.phase }, { on := 4, ground := Go.Ground.phase }, { on := 5, ground := Go.Ground.phase }, { on := 6, ground := Go.Ground.phase }, { on := 7, ground := Go.Ground.phase }, { on := 8, ground := Go.Ground.phase }, { on := 9, ground := Go.Ground.phase }, { on := 10, ground := Go.Ground.phase }, { on := 11, ground := Go.Ground.phase }], guard := none }) (v := ?v29) rfl (by kernel_rfl) (by kernel_rfl) (by kernel_rfl) (fun _ _ _ h => h) (Or.inl ⟨by rfl, ?y29⟩) (by assumption) ?r29
  case y29 => (intro w hSw; (try dsimp only at hSw); first | (go_simp; done) | (go_simp; with_reducible rfl))
  try simp only [Act.put, List.setIfInBounds_toArray, List.set_cons_zero, List.set_cons_succ]
  refine wpAnyH_ready (rs := [13]) (by kernel_rfl) (by simp) ?_
  refine AllReadyH.cons (o := { dst := none, op := Go.Op.store 29 (Go.Operand.tmp 40) (Go.Operand.tmp 39), type := 0, pos := "readers.go:104", after := #[{ on := 12, ground := Go.Ground.data }, { on := 11, ground := Go.Ground.data }, { on := 0, ground := Go.Ground.phase }, { on := 1, ground := Go.Ground.phase }, { on := 2, ground := Go.Ground.phase }, { on := 3, ground := Go.Ground.phase }, { on := 4, ground := Go.Ground.phase }, { on := 5, ground := Go.Ground.phase }, { on := 6, ground := Go.Ground.phase }, { on := 7, ground := Go.Ground.phase }, { on := 8, ground := Go.Ground.phase }, { on := 9, ground := Go.Ground.phase }, { on := 10, ground := Go.Ground.phase }, { on := 11, ground := Go.Ground.phase }], guard := none }) rfl (fun K hK => ?s30) ?m30
  case m30 => exact AllReadyH.nil
  go_simp
  refine hK.out _ _ ?h30 (fun hHeld => ?k30)
  case h30 => ((try dsimp only); (first | assumption | (exact (World.cell?_setCell_far _ ⟨G, o0, none⟩ ⟨Q, 0, none⟩ _ (fun e => hQG e.symm)).trans z0) | go_keep))
  clear hK K
  try simp only [Act.put, List.setIfInBounds_toArray, List.set_cons_zero, List.set_cons_succ]
  refine wpAnyH_done (by kernel_rfl) ?_ _
  refine NoPanic.normal ?_
  have g2 := hG2 w1 hS1
  have z2 := (World.cell?_setCell_far w1 ⟨G, o0, none⟩ ⟨Q, 0, none⟩ (.slice A' (p.length - k) (c0 - k)) (fun e => hQG e.symm)).trans z0
  have z3 := cellH g2 o0 (.slice A' (p.length - k) (c0 - k)) (by simp [hcur])
  have kD : ∀ v : Value, ((w1.setCell ⟨G, o0, none⟩ (.slice A' (p.length - k) (c0 - k))).setCell ⟨Q, 0, none⟩ v).heap[D]? = some (.cells (splice cur off (byV (p.take n))).toArray 5 (0, 0)) := fun v => (Below.heap_setCell _ _ _ _ (fun e => hQD e.symm)).trans ((Below.heap_setCell _ _ _ _ (fun e => hGD e.symm)).trans hD1.out)
  have kD1 : (w1.setCell ⟨G, o0, none⟩ (.slice A' (p.length - k) (c0 - k))).heap[D]? = some (.cells (splice cur off (byV (p.take n))).toArray 5 (0, 0)) := (Below.heap_setCell _ _ _ _ (fun e => hGD e.symm)).trans hD1.out
  by_cases hpn : p.length ≤ n
  · have hpz : p.length - k = 0 := by rw [hHk.out, show Nat.min p.length n = p.length from Nat.min_eq_left hpn]; omega
    have F2 := Lib.hid (fin2 w1 hS1 hpn)
    have FB := Lib.hid (frB w1 (.slice (if c1 = 1 then some ⟨G, o0, none⟩ else some ⟨G, o0 + 1, none⟩) r.length (c1 - 1)) hS1)
    have KD := Lib.hid (kD (.slice (if c1 = 1 then some ⟨G, o0, none⟩ else some ⟨G, o0 + 1, none⟩) r.length (c1 - 1)))
    have u0 := (Below.heap_setCell w1 ⟨G, o0, none⟩ (.slice A' (p.length - k) (c0 - k)) Q hQG).trans ((hS1.block Q hQD).trans hHQ.out)
    have u2 := frozenH u0 0
    rw [hpz] at z2 z3 F2 FB KD u2
    have r1 : (1 : Int) ≤ (r.length : Int) + 1 := by omega
    clear fin1 fin2 frA frB kD kD1 hG2 g2 u0
    have hkl : Hid (((p.length : Nat) : Int) = (k : Int)) := Lib.hid (by rw [hHk.out, show Nat.min p.length n = p.length from Nat.min_eq_left hpn])
    have hHp := Lib.hid hpn
    clear hpn
    by_cases hc1 : c1 = 1
    · subst hc1
      simp only [if_true, Nat.sub_self] at F2 FB KD
      have hr0 : r.length = 0 := by omega
      rw [hr0] at F2 FB KD
      go_wp2
      go_ret2
      exact ⟨rfl, by rw [← hHps.out, if_pos hHp.out]; exact PR.drew F2.out, KD.out, FB.out.drew⟩
    · simp only [if_neg hc1] at F2 FB KD
      go_wp2
      go_ret2
      exact ⟨rfl, by rw [← hHps.out, if_pos hHp.out]; exact PR.drew F2.out, KD.out, FB.out.drew⟩
  · have hpz : (((p.length - k : Nat) : Int) == 0) = false := by
      rw [beq_eq_false_iff_ne, hHk.out, show Nat.min p.length n = n from Nat.min_eq_right (by omega)]; omega
    have F1 := Lib.hid (fin1 w1 hS1 hpn)
    have FA := Lib.hid (frA w1 hS1)
    have KD := Lib.hid kD1
    have hHn := Lib.hid hpn
    clear fin1 fin2 frA frB kD kD1 hG2 g2 hpn
    go_wp2
    go_ret2
    exact ⟨rfl, by rw [← hHps.out, if_neg hHn.out]; exact PR.drew F1.out, KD.out, FA.out.drew⟩
end Go.Proofs.YtgbcmjbiddkldaaDoor.Given
