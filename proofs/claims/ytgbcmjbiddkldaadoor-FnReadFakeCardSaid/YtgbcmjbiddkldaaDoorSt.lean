/- The contract of impl.readSteps over a repeatable reader: what each read and seek answers. Up to 60 steps. -/
import Derived.Test.YtgbcmjbiddkldaaDoorRo
namespace Go.Proofs.YtgbcmjbiddkldaaDoor.Given
open Go.RowKit Go.Proofs.YtgbcmjbiddkldaaDoorW.PrintWords Go.Proofs.YtgbcmjbiddkldaaDoor.PR Go.Proofs.YtgbcmjbiddkldaaDoor.Pl
set_option linter.unusedVariables false
set_option linter.unusedSimpArgs false

/-- What the loop over steps holds, and what is to come. -/
structure Lp (M B Q : Nat) (fails : Bool) (w0 w : World) (a : Addr) (st : RSt) (vb v : Value) (l : List (Value × Ans)) : Prop where
  rr : RR w M B Q fails st.1 st.2.1 st.2.2 vb
  out : Outs w M vb v l
  la : LaidE w a M
  bel : Below M w0 w
theorem RR.moved {w w' : World} {M B Q : Nat} {fails : Bool} {ps : List (List Int)} {kept : List Int} {i : Nat} {vb : Value} (h : RR w M B Q fails ps kept i vb) (hM : M ≤ w.heap.size) (hk : ∀ k, k < w.heap.size → w'.heap[k]? = w.heap[k]?) : RR w' M B Q fails ps kept i vb :=
  ⟨(hk B (ltH h.hB)).trans h.hB, h.hP.moved (fun k hk' => hk k (by
    rcases hk' with hk' | ⟨c, t, hc, _⟩
    · omega
    · exact ltH hc)), own_move h.hb (fun k e => hk k (own_lt h.hb k e)), h.hi, h.lo⟩
theorem RR.v5 {w : World} {M B Q : Nat} {fails : Bool} {ps : List (List Int)} {kept : List Int} {i : Nat} {vb : Value} (h : RR w M B Q fails ps kept i vb) : ∀ k, vb.ownBlock = some k → ∃ cur, w.heap[k]? = some (.cells cur 5 (0, 0)) := fun k e => own_typed h.hb k e
/-- Whatever is made beside it. -/
theorem Lp.grow {M B Q : Nat} {fails : Bool} {w0 w w' : World} {a : Addr} {st : RSt} {vb v : Value} {l : List (Value × Ans)} (h : Lp M B Q fails w0 w a st vb v l) (hM : M ≤ w.heap.size) (hb : Below w.heap.size w w') : Lp M B Q fails w0 w' a st vb v l :=
  ⟨h.rr.moved hM hb.block, h.out.moved (fun k _ hk _ _ => hb.block k hk) h.rr.v5 (.inl rfl), h.la.below (fun k hk => hb.block k (by omega)) hb.size, h.bel.trans (hb.mono hM)⟩
theorem Lp.append {M B Q : Nat} {fails : Bool} {w0 w w' : World} {a : Addr} {st : RSt} {vb v v' dv : Value} {x : Ans} {l : List (Value × Ans)} (h : Lp M B Q fails w0 w a st vb v l) (hM : M ≤ w.heap.size) (hd : DataAt w M vb dv x.data)
    (ho : w'.ownsRow M 34 3 v' (l.length + 1) (flatO l ++ [dv, .int .i64 x.at_, .int .i64 x.err])) (hg : w.grownBy w' v.ownBlock) : Lp M B Q fails w0 w' a st vb v' (l ++ [(dv, x)]) := by
  have hne : ∀ (k : Nat) (c : Array Value) (t : TypeId), w.heap[k]? = some (.cells c t (0, 0)) → t ≠ 34 → w'.heap[k]? = w.heap[k]? := fun k c t hc ht => hg.block k (ltH hc) (own_ne h.out.own hc (fun e => ht e.symm))
  have hlow : ∀ k, k < M → w'.heap[k]? = w.heap[k]? := fun k hk => hg.block k (by omega) (fun e => by have := own_base h.out.own k e.symm; omega)
  have hd5 : ∀ k, M ≤ k → k < w.heap.size → (∃ cur, w.heap[k]? = some (.cells cur 5 (0, 0))) → some k ≠ vb.ownBlock → w'.heap[k]? = w.heap[k]? := fun k _ _ hc _ => by
    obtain ⟨cur, hc⟩ := hc
    exact hne k cur 5 hc (by decide)
  refine ⟨⟨(hne _ _ _ h.rr.hB (by decide)).trans h.rr.hB, h.rr.hP.moved (fun k hk => ?_), own_move h.rr.hb (fun k e => by obtain ⟨c, hc⟩ := own_typed h.rr.hb k e; exact hne k c 5 hc (by decide)), h.rr.hi, h.rr.lo⟩,
    ⟨by rw [List.length_append, flatO_snoc]; exact ho, fun p hp => ?_⟩, h.la.below hlow hg.size, h.bel.trans ⟨hg.os, hg.tape, hg.output, hg.size, hlow⟩⟩
  · rcases hk with hk | ⟨c, t, hc, ht⟩
    · exact hlow k hk
    · exact hne k c t hc (by rcases ht with ht | ht <;> rw [ht] <;> decide)
  · rcases List.mem_append.1 hp with hp | hp
    · exact (h.out.data p hp).moved hd5 (.inl rfl)
    · rw [List.mem_singleton.1 hp]
      exact hd.moved hd5 (.inl rfl)
/-- Behind a read. -/
theorem Lp.read {M B Q D : Nat} {fails : Bool} {w0 w w' : World} {a : Addr} {st st' : RSt} {vb vb' v : Value} {l : List (Value × Ans)} (h : Lp M B Q fails w0 w a st vb v l) (hM : M ≤ w.heap.size) (hMD : M ≤ D) (hD34 : ∀ p ∈ l, p.1.ownBlock ≠ some D) (hDo : v.ownBlock ≠ some D)
    (hr : RR w' M B Q fails st'.1 st'.2.1 st'.2.2 vb') (hv : vb'.ownBlock = vb.ownBlock ∨ ∃ g, vb'.ownBlock = some g ∧ w.heap.size ≤ g) (hF : FrR M D vb w w') : Lp M B Q fails w0 w' a st' vb' v l := by
  have hlow : ∀ k, k < M → w'.heap[k]? = w.heap[k]? := fun k hk => hF.block k (by omega) (by omega) (fun e => by have := own_base h.rr.hb k e.symm; omega) (.inl hk)
  refine ⟨hr, ⟨own_move h.out.own (fun k e => ?_), fun p hp => ?_⟩, h.la.below hlow hF.size, h.bel.trans ⟨hF.os, hF.tape, hF.output, hF.size, hlow⟩⟩
  · obtain ⟨c, hc⟩ := own_typed h.out.own k e
    refine hF.block k (ltH hc) (fun e' => hDo (by rw [e, e'])) (fun e' => ?_) (.inr ⟨c, 34, hc, by decide, by decide, by decide⟩)
    obtain ⟨c2, hc2⟩ := h.rr.v5 k e'.symm
    rw [hc] at hc2; cases hc2
  · obtain ⟨A, c, e, h1, h2, h3⟩ := h.out.data p hp
    have key : ∀ k, p.1.ownBlock = some k → w'.heap[k]? = w.heap[k]? := fun k hk => by
      obtain ⟨q1, ⟨cur, q2⟩, q3⟩ := h2 k hk
      exact hF.block k (ltH q2) (fun e' => hD34 p hp (by rw [hk, e'])) q3 (.inr ⟨cur, 5, q2, by decide, by decide, by decide⟩)
    refine ⟨A, c, e, h1, fun k hk => ?_, fun j x hj => ?_⟩
    · obtain ⟨q1, ⟨cur, q2⟩, q3⟩ := h2 k hk
      refine ⟨q1, ⟨cur, (key k hk).trans q2⟩, ?_⟩
      rcases hv with hv | ⟨g, hg, hlt⟩
      · rw [hv]; exact q3
      · rw [hg]
        intro e'
        have := Option.some.inj e'
        have := ltH q2
        omega
    · obtain ⟨x', rfl, h4⟩ := h3 j x hj
      exact ⟨x', rfl, (cell_kept (key _ (by rw [e]; rfl))).trans h4⟩
/-- Behind a seek, or whatever else writes block B alone. -/
theorem Lp.only {M B Q : Nat} {fails : Bool} {w0 w w' : World} {a : Addr} {st st' : RSt} {vb v : Value} {l : List (Value × Ans)} (h : Lp M B Q fails w0 w a st vb v l) (hM : M ≤ w.heap.size) (hr : RR w' M B Q fails st'.1 st'.2.1 st'.2.2 vb) (hF : Only B w w') : Lp M B Q fails w0 w' a st' vb v l := by
  have hB := h.rr.hB
  have hlow : ∀ k, k < M → w'.heap[k]? = w.heap[k]? := fun k hk => hF.block k (by omega) (by have := h.rr.lo; omega)
  exact ⟨hr, h.out.moved (fun k _ h2 h3 _ => hF.block k h2 (fun e => by subst e; obtain ⟨c, t, hc, ht⟩ := h3; rw [hB] at hc; cases hc; rcases ht with ht | ht <;> cases ht)) h.rr.v5 (.inl rfl), h.la.below hlow hF.size, h.bel.trans ⟨hF.os, hF.tape, hF.output, hF.size, hlow⟩⟩

theorem Only.set (w : World) (k0 j : Nat) (v : Value) : Only k0 w (w.setCell ⟨k0, j, none⟩ v) := ⟨rfl, rfl, rfl, by simp, fun k _ hk => Below.heap_setCell _ _ _ k hk⟩
theorem Only.trans {k0 : Nat} {a b c : World} (h : Only k0 a b) (k : Only k0 b c) : Only k0 a c :=
  ⟨k.os.trans h.os, k.tape.trans h.tape, k.output.trans h.output, Nat.le_trans h.size k.size, fun i h1 h2 => (k.block i (Nat.lt_of_lt_of_le h1 h.size) h2).trans (h.block i h1 h2)⟩
theorem Only.drew {k0 : Nat} {a b : World} (h : Only k0 a b) : Only k0 a b.drew := ⟨h.os, h.tape, h.output, h.size, h.block⟩
/-- A block of answers' type that is not the row's is written. -/
theorem Lp.at34 {M B Q k0 : Nat} {fails : Bool} {w0 w w' : World} {a : Addr} {st : RSt} {vb v : Value} {l : List (Value × Ans)} (h : Lp M B Q fails w0 w a st vb v l) (hM : M ≤ w.heap.size) {c0 : Array Value} (hk0 : w.heap[k0]? = some (.cells c0 34 (0, 0))) (hMk : M ≤ k0) (hno : ∀ k, v.ownBlock = some k → k < k0) (hs : Only k0 w w') : Lp M B Q fails w0 w' a st vb v l := by
  have hne : ∀ (k : Nat) (c : Array Value) (t : TypeId), w.heap[k]? = some (.cells c t (0, 0)) → t ≠ 34 → w'.heap[k]? = w.heap[k]? := fun k c t hc ht => hs.block k (ltH hc) (fun e => by subst e; rw [hk0] at hc; cases hc; exact ht rfl)
  have hlow : ∀ k, k < M → w'.heap[k]? = w.heap[k]? := fun k hk => hs.block k (by omega) (by omega)
  refine ⟨⟨(hne _ _ _ h.rr.hB (by decide)).trans h.rr.hB, h.rr.hP.moved (fun k hk => ?_), own_move h.rr.hb (fun k e => by obtain ⟨c, hc⟩ := own_typed h.rr.hb k e; exact hne k c 5 hc (by decide)), h.rr.hi, h.rr.lo⟩,
    ⟨own_move h.out.own (fun k e => hs.block k (own_lt h.out.own k e) (by have := hno k e; omega)), fun p hp => (h.out.data p hp).moved (fun k _ _ hc _ => by obtain ⟨cur, hc⟩ := hc; exact hne k cur 5 hc (by decide)) (.inl rfl)⟩, h.la.below hlow hs.size, h.bel.trans ⟨hs.os, hs.tape, hs.output, hs.size, hlow⟩⟩
  rcases hk with hk | ⟨c, t, hc, ht⟩
  · exact hlow k hk
  · exact hne k c t hc (by rcases ht with ht | ht <;> rw [ht] <;> decide)

set_option maxHeartbeats 8000000 in
set_option maxRecDepth 100000 in
theorem rsteps (M B Q c : Nat) (fails : Bool) (A0 : Option Addr) (steps : List S32) (st0 : RSt) (vb0 : Value) (w : World) (a : Addr) (hr : RR w M B Q fails st0.1 st0.2.1 st0.2.2 vb0) (hL : LaidE w a M) (hM : M ≤ w.heap.size) (hC : Kd.C k32 w A0 steps.length steps) (hc : steps.length ≤ c) (hl : steps.length ≤ 60)
    (hCM : ∀ w', Below M w w' → Kd.C k32 w' A0 steps.length steps) (hok : ∀ s ∈ steps, okR s) (hp6 : ∀ p ∈ st0.1, p.length ≤ 100000) (hr6 : st0.1.length ≤ 100000) (hk6 : st0.2.1.length ≤ 100000) :
    Calls Tryd.prog 22 #[.iface 53 (.pointer (some ⟨B, 0, none⟩)), .iface 53 (.pointer (some ⟨B, 0, none⟩)), .nilIface, .pointer none, .slice A0 steps.length c] w fun e w' => ∃ v l, e = .returned v ∧ l.map (·.2) = runR fails st0 steps ∧ (∃ vb, Outs w' M vb v l) ∧ Below M w w' := by
  have hm1 := m53
  have hm2 := m53s
  go_enter Tryd.func22, Tryd.ntmps22
  go_wp2
  go_loopg [11, 22] steps.length (fun gf s11 s22 wx => ∃ (i : Nat) (st : RSt) (vb : Value) (l : List (Value × Ans)), s22 = .int .i64 i ∧ i ≤ steps.length ∧ steps.length ≤ i + gf ∧ Lp M B Q fails w wx a st vb s11 l ∧ M ≤ wx.heap.size ∧ l.length = i ∧
    (∀ p ∈ st.1, p.length ≤ 100000) ∧ st.1.length ≤ 100000 ∧ st.2.1.length ≤ 100000 + 5000 * i ∧ Hid (l.map (·.2) ++ runR fails st (steps.drop i) = runR fails st0 steps))
  case atStart => exact ⟨0, st0, vb0, [], rfl, Nat.zero_le _, by omega, ⟨hr, Outs.nil _ _ _, hL, Below.refl _ _⟩, hM, rfl, hp6, hr6, by omega, Lib.hid (by simp)⟩
  case round =>
    clear hr hL hp6 hr6 hk6 hC
    obtain ⟨i, st, vb, l, rfl, hi, hfu, hLp, hMr, hln, hp6, hr6, hk6, hH⟩ := hrel
    subst hln
    by_cases hlt : l.length < steps.length
    · obtain ⟨g', rfl⟩ : ∃ g', gk = g' + 1 := ⟨gk - 1, by omega⟩
      have hCx := hCM wr hLp.bel
      obtain ⟨ad, hA0, x0, x1, x2⟩ := at_T32 hCx (l.length : Int) (by omega) (by omega)
      have hsl : rd_T32 steps (l.length : Int) = steps[l.length] := by simp [rd_T32, hlt]
      rw [hsl] at x0 x1 x2
      have hH1 := hH.out
      rw [List.drop_eq_getElem_cons hlt] at hH1
      have hoks := hok _ (List.getElem_mem hlt)
      obtain ⟨s, hs⟩ : ∃ s, steps[l.length] = s := ⟨_, rfl⟩
      rw [hs] at x0 x1 x2 hH1 hoks
      simp only [Int.toNat_natCast] at x0 x1 x2
      subst hA0
      simp only [runR] at hH1
      obtain ⟨dv, nn, wh⟩ := s
      simp only at x0 x1 x2
      clear hH hsl hs hCx
      -- the step's block, and the answer's
      obtain ⟨S, hS⟩ : ∃ S, wr.heap.size = S := ⟨_, rfl⟩
      have q1 := (MapKept.heap_alloc wr (.cells #[.int .i64 dv, .int .i64 nn, .int .i64 wh] 32)).1
      have z1 : (wr.alloc (.cells #[.int .i64 dv, .int .i64 nn, .int .i64 wh] 32)).heap.size = S + 1 := by simp [hS]
      have q2 := (Below.heap_alloc (wr.alloc (.cells #[.int .i64 dv, .int .i64 nn, .int .i64 wh] 32)) (.cells #[.slice none 0 0, .int .i64 0, .int .i64 0] 34) wr.heap.size (by simp)).trans q1
      have q3 := (MapKept.heap_alloc (wr.alloc (.cells #[.int .i64 dv, .int .i64 nn, .int .i64 wh] 32)) (.cells #[.slice none 0 0, .int .i64 0, .int .i64 0] 34)).1
      have b2 : Below wr.heap.size wr ((wr.alloc (.cells #[.int .i64 dv, .int .i64 nn, .int .i64 wh] 32)).alloc (.cells #[.slice none 0 0, .int .i64 0, .int .i64 0] 34)) := ((Below.refl _ _).alloc (Nat.le_refl _) _).alloc (by simp) _
      rw [z1] at q3
      rw [hS] at q2
      clear q1 z1
      have hLp2 := hLp.grow hMr b2
      have hne1 : ∀ p ∈ l, ∀ k, p.1.ownBlock = some k → k < S := fun p hp k hk => by
        obtain ⟨_, _, _, _, h2, _⟩ := hLp.out.data p hp
        obtain ⟨_, ⟨_, q⟩, _⟩ := h2 k hk
        rw [← hS]; exact ltH q
      obtain ⟨Ao, co, eo⟩ := own_slice hLp.out.own
      subst eo
      have hne2 : ∀ k, (Value.slice Ao l.length co).ownBlock = some k → k < S := fun k hk => by rw [← hS]; exact own_lt hLp.out.own k hk
      clear hLp
      have hl60 : l.length < 60 := by omega
      obtain ⟨W, hW⟩ : ∃ W, ((wr.alloc (.cells #[.int .i64 dv, .int .i64 nn, .int .i64 wh] 32)).alloc (.cells #[.slice none 0 0, .int .i64 0, .int .i64 0] 34)) = W := ⟨_, rfl⟩
      have szW : W.heap.size = S + 2 := by rw [← hW]; simp [hS]
      unfold okR at hoks
      simp only at hoks
      go_upto_block 2 with fail
      rw [hW] at q2 q3 b2 hLp2
      clear hW x0 x1 x2
      have hMS : M ≤ S := by omega
      by_cases d0 : dv = 0
      · subst d0
        obtain ⟨n, hn⟩ : ∃ n : Nat, nn = (n : Int) := ⟨nn.toNat, by rcases hoks with h | h <;> omega⟩
        subst hn
        have hn1 : 1 ≤ n ∧ n ≤ 5000 := by rcases hoks with h | h <;> omega
        obtain ⟨z, hz⟩ : ∃ z, rrRead fails n st.1 st.2.1 st.2.2 = z := ⟨_, rfl⟩
        have hlens := rrRead_len fails n st.1 st.2.1 st.2.2
        rw [hz] at hlens
        obtain ⟨hz1, hz2, hz3, hz4⟩ := hlens
        have hst : stR fails st ⟨0, n, wh⟩ = ((z.1, z.2.1, st.2.2 + z.2.2.1.length), ⟨z.2.2.1, 0, z.2.2.2⟩) := by
          unfold stR
          simp only [if_true, Int.toNat_natCast]
          rw [hz]
        rw [hst] at hH1
        have F := Lib.hid hH1
        have hp7 : ∀ p ∈ z.1, p.length ≤ 100000 := hz4 100000 hp6
        have hr7 : z.1.length ≤ 100000 := by omega
        have hk7 : z.2.1.length ≤ 100000 + 5000 * (l.length + 1) := by omega
        have hrd := fun (w3 : World) (D : Nat) (cur : List Value) (h1 : RR w3 M B Q fails st.1 st.2.1 st.2.2 vb) (h2 : w3.heap[D]? = some (.cells cur.toArray 5 (0, 0))) (h3 : cur.length = n) (h4 : some D ≠ vb.ownBlock) (h5 : M ≤ D) (h6 : M ≤ w3.heap.size) (h7 : LaidE w3 a M) =>
          rread M B Q D n st.2.2 fails st.1 st.2.1 vb cur w3 a h1 h2 h3 h4 hn1.1 (by omega) h5 h6 h7 (fun p hp => Nat.le_trans (hp6 p hp) (by omega)) (by omega) (by omega)
        rw [hz] at hrd
        clear hz hst hH1 hz2 hz3 hz4 hoks
        have e0 : ((0 : Int) == 0) = true := rfl
        obtain ⟨j0, hj0, jz0, jz1, jz2⟩ := info_parts info5
        have s0 := cellH q2 0 (.int .i64 0) rfl
        have s1 := cellH q2 1 (.int .i64 (n : Int)) rfl
        have n0 : ¬ n = 0 := by omega
        have szW' := Lib.hid szW
        have hS' := Lib.hid hS
        have hMW := Lib.hid (show M ≤ W.heap.size by omega)
        have hb2 : 1 * n ≤ 281474976710656 := by omega
        have hb3 : n ≤ maxLen := by unfold maxLen; omega
        clear szW hS
        go_upto_region 9 with (first
          | (at_make; go_must (refine wpList_make_full _ rfl (.tmp 31) (.tmp 31) 29 rfl M 5 j0 _ 1 Tryd.underlying29 hj0 jz0 jz1 .i64 .i64 (n : Int) (n : Int) n rfl rfl rfl rfl (by rw [jz2]; exact hb2) hb3 hMW.out ?_; intro w3 hmk hg3); have hL3 := hLp2.grow hMW.out ⟨hg3.os, hg3.tape, hg3.output, hg3.size, fun k hk => hg3.block k hk (by simp)⟩; obtain ⟨cur, hcur, hcl⟩ := make_cells hmk; have hDb : Hid (some W.heap.size ≠ vb.ownBlock) := Lib.hid (fun e => by have := own_lt hLp2.rr.hb _ e.symm; omega); have sz3 := hg3.size; have hM3 := Nat.le_trans hMW.out sz3; have q33 := (hg3.block (S + 1) (ltH q3) (by simp)).trans q3)
          | (go_at_call 46; go_must (refine (hrd w3 W.heap.size cur hL3.rr hcur hcl hDb.out hMW.out hM3 hL3.la).mono ?_; rintro e w4 ⟨v, vb', rfl, hE, hR4, hv4, hD4, hF4⟩); have q4 := (hF4.block (S + 1) (ltH q33) (by have := szW'.out; omega) (own_neB hL3.rr.hb q33 (by decide)) (.inr ⟨_, 34, q33, by decide, by decide, by decide⟩)).trans q33))
        have hL4 := hL3.read (D := W.heap.size) (st' := (z.1, z.2.1, st.2.2 + z.2.2.1.length)) hM3 hMW.out (fun p hp e => by have := hne1 p hp _ e; have := szW'.out; omega) (fun e => by have := hne2 _ e; have := szW'.out; omega) hR4 hv4 hF4
        have hM4 : M ≤ w4.heap.size := Nat.le_trans hM3 hF4.size
        have hDb4 : some W.heap.size ≠ vb'.ownBlock := by
          rcases hv4 with hv4 | ⟨g, hg, hlt⟩
          · rw [hv4]; exact hDb.out
          · rw [hg]
            intro e
            have h1 := Option.some.inj e
            have h2 := ltH hcur
            omega
        have hdv4 := DataAt.read (n := n) hD4 hMW.out hDb4 hz1
        have hL6 := Lib.hid hL4.la
        have a0 := cellH q4 0 (.slice none 0 0) rfl
        have a1 := cellH q4 1 (.int .i64 0) rfl
        have a2 := cellH q4 2 (.int .i64 0) rfl
        have u0 := frozenH q4 0
        have u2 := frozenH q4 2
        have z0 : (0 : Int) ≤ (z.2.2.1.length : Int) := by omega
        have z1 : (z.2.2.1.length : Int) ≤ (n : Int) := by omega
        refine wp_region_noPanic ?_
        refine wp_region_held_drew (S := (fun _ => True)) (by kernel_rfl) ?h11 (fun hHeld => ?k11)
        case h11 => ((try dsimp only); all_goals trivial)
        refine wpAnyH_take (i := 0) (oi := { dst := some 39, op := Go.Op.move (Go.Operand.tmp 15), type := 29, pos := "readers.go:137", after := #[], guard := none }) (v := ?v12) rfl (by kernel_rfl) (by kernel_rfl) (by kernel_rfl) (fun _ _ _ h => h) (Or.inl ⟨by rfl, ?y12⟩) (by assumption) ?r12
        case y12 => (intro w hSw; (try dsimp only at hSw); first | (go_simp; done) | (go_simp; with_reducible rfl))
        try simp only [Act.put, List.setIfInBounds_toArray, List.set_cons_zero, List.set_cons_succ]
        refine wpAnyH_take (i := 1) (oi := { dst := some 40, op := Go.Op.move (Go.Operand.tmp 16), type := 3, pos := "readers.go:137", after := #[], guard := none }) (v := ?v13) rfl (by kernel_rfl) (by kernel_rfl) (by kernel_rfl) (fun _ _ _ h => h) (Or.inl ⟨by rfl, ?y13⟩) (by assumption) ?r13
        case y13 => (intro w hSw; (try dsimp only at hSw); first | (go_simp; done) | (go_simp; with_reducible rfl))
        try simp only [Act.put, List.setIfInBounds_toArray, List.set_cons_zero, List.set_cons_succ]
        refine wpAnyH_take (i := 2) (oi := { dst := some 41, op := Go.Op.slice 29 (Go.Operand.tmp 39) none (some (Go.Operand.tmp 40)) none, type := 29, pos := "readers.go:137", after := #[{ on := 0, ground := Go.Ground.data }, { on := 1, ground := Go.Ground.data }], guard := none }) (v := ?v14) rfl (by kernel_rfl) (by kernel_rfl) (by kernel_rfl) (fun _ _ _ h => h) (Or.inl ⟨by rfl, ?y14⟩) (by assumption) ?r14
        case y14 => (intro w hSw; (try dsimp only at hSw); first | (go_simp; done) | (go_simp; with_reducible rfl))
        try simp only [Act.put, List.setIfInBounds_toArray, List.set_cons_zero, List.set_cons_succ]
        refine wpAnyH_take (i := 3) (oi := { dst := some 42, op := Go.Op.move (Go.Operand.tmp 17), type := 64, pos := "readers.go:137", after := #[], guard := none }) (v := ?v15) rfl (by kernel_rfl) (by kernel_rfl) (by kernel_rfl) (fun _ _ _ h => h) (Or.inl ⟨by rfl, ?y15⟩) (by assumption) ?r15
        case y15 => (intro w hSw; (try dsimp only at hSw); first | (go_simp; done) | (go_simp; with_reducible rfl))
        try simp only [Act.put, List.setIfInBounds_toArray, List.set_cons_zero, List.set_cons_succ]
        refine wpAnyH_take (i := 5) (oi := { dst := some 44, op := Go.Op.fieldAddr 34 (Go.Operand.tmp 14) 0, type := 0, pos := "readers.go:137", after := #[{ on := 0, ground := Go.Ground.phase }, { on := 1, ground := Go.Ground.phase }, { on := 2, ground := Go.Ground.phase }, { on := 3, ground := Go.Ground.textOnly Go.Departure.lateStores }, { on := 4, ground := Go.Ground.textOnly Go.Departure.lateStoresUnsure }], guard := none }) (v := ?v16) rfl (by kernel_rfl) (by kernel_rfl) (by kernel_rfl) (fun _ _ _ h => h) (Or.inl ⟨by rfl, ?y16⟩) (by assumption) ?r16
        case y16 => (intro w hSw; (try dsimp only at hSw); first | (go_simp; done) | (go_simp; with_reducible rfl))
        try simp only [Act.put, List.setIfInBounds_toArray, List.set_cons_zero, List.set_cons_succ]
        refine wpAnyH_ready (rs := [4]) (by kernel_rfl) (by simp) ?_
        refine AllReadyH.cons (o := { dst := some 43, op := Go.Op.call { callee := Go.Callee.value (Go.Operand.func 26), args := #[Go.Operand.tmp 42], argTypes := #[64] }, type := 3, pos := "readers.go:137", after := #[{ on := 3, ground := Go.Ground.data }], guard := none }) rfl (fun K hK => ?s17) ?m17
        case m17 => exact AllReadyH.nil
        go_simp; go_at_call 26; refine (kind_any _ a M _ v ?hLL (hE.toV _ _)).mono ?_; (case hLL => exact hL6.out.below (fun k hk => rfl) (Nat.le_refl _)); rintro e w8 ⟨rfl, rfl⟩
        refine hK.out _ _ ?h17 (fun hHeld => ?k17)
        case h17 => ((try dsimp only); all_goals trivial)
        clear hK K
        try simp only [Act.put, List.setIfInBounds_toArray, List.set_cons_zero, List.set_cons_succ]
        refine wpAnyH_ready (rs := [6]) (by kernel_rfl) (by simp) ?_
        refine AllReadyH.cons (o := { dst := none, op := Go.Op.store 29 (Go.Operand.tmp 44) (Go.Operand.tmp 41), type := 0, pos := "readers.go:137", after := #[{ on := 5, ground := Go.Ground.data }, { on := 2, ground := Go.Ground.data }, { on := 4, ground := Go.Ground.chain }, { on := 0, ground := Go.Ground.phase }, { on := 1, ground := Go.Ground.phase }, { on := 2, ground := Go.Ground.phase }, { on := 3, ground := Go.Ground.textOnly Go.Departure.lateStores }, { on := 4, ground := Go.Ground.textOnly Go.Departure.lateStoresUnsure }], guard := none }) rfl (fun K hK => ?s18) ?m18
        case m18 => exact AllReadyH.nil
        go_simp
        refine hK.out _ _ ?h18 (fun hHeld => ?k18)
        case h18 => ((try dsimp only); all_goals trivial)
        clear hK K
        try simp only [Act.put, List.setIfInBounds_toArray, List.set_cons_zero, List.set_cons_succ]
        refine wpAnyH_take (i := 7) (oi := { dst := some 45, op := Go.Op.fieldAddr 34 (Go.Operand.tmp 14) 2, type := 0, pos := "readers.go:137", after := #[{ on := 0, ground := Go.Ground.phase }, { on := 1, ground := Go.Ground.phase }, { on := 2, ground := Go.Ground.phase }, { on := 3, ground := Go.Ground.phase }, { on := 4, ground := Go.Ground.phase }, { on := 5, ground := Go.Ground.phase }, { on := 6, ground := Go.Ground.phase }], guard := none }) (v := ?v19) rfl (by kernel_rfl) (by kernel_rfl) (by kernel_rfl) (fun _ _ _ h => h) (Or.inl ⟨by rfl, ?y19⟩) (by assumption) ?r19
        case y19 => (intro w hSw; (try dsimp only at hSw); first | (go_simp; done) | (go_simp; with_reducible rfl))
        try simp only [Act.put, List.setIfInBounds_toArray, List.set_cons_zero, List.set_cons_succ]
        refine wpAnyH_ready (rs := [8]) (by kernel_rfl) (by simp) ?_
        refine AllReadyH.cons (o := { dst := none, op := Go.Op.store 3 (Go.Operand.tmp 45) (Go.Operand.tmp 43), type := 0, pos := "readers.go:137", after := #[{ on := 7, ground := Go.Ground.data }, { on := 4, ground := Go.Ground.data }, { on := 6, ground := Go.Ground.chain }, { on := 0, ground := Go.Ground.phase }, { on := 1, ground := Go.Ground.phase }, { on := 2, ground := Go.Ground.phase }, { on := 3, ground := Go.Ground.phase }, { on := 4, ground := Go.Ground.phase }, { on := 5, ground := Go.Ground.phase }, { on := 6, ground := Go.Ground.phase }], guard := none }) rfl (fun K hK => ?s20) ?m20
        case m20 => exact AllReadyH.nil
        go_simp
        refine hK.out _ _ ?h20 (fun hHeld => ?k20)
        case h20 => ((try dsimp only); all_goals trivial)
        clear hK K
        try simp only [Act.put, List.setIfInBounds_toArray, List.set_cons_zero, List.set_cons_succ]
        refine wpAnyH_done (by kernel_rfl) ?_ _
        refine NoPanic.normal ?_
        obtain ⟨w5, hw5⟩ : ∃ w5, ((w4.setCell ⟨S + 1, 0, none⟩ (.slice (some ⟨W.heap.size, 0, none⟩) z.2.2.1.length n)).setCell ⟨S + 1, 2, none⟩ (.int .i64 z.2.2.2)).drew = w5 := ⟨_, rfl⟩
        have on5 : Only (S + 1) w4 w5 := by rw [← hw5]; exact Only.drew ((Only.set _ _ _ _).trans (Only.set _ _ _ _))
        have q5 : w5.heap[S + 1]? = some (.cells #[.slice (some ⟨W.heap.size, 0, none⟩) z.2.2.1.length n, .int .i64 0, .int .i64 z.2.2.2] 34 (0, 0)) := by rw [← hw5]; exact setH (setH q4 0 _ (by simp)) 2 _ (by simp)
        have hL5 := Lib.hid (hL4.at34 hM4 q4 (by omega) (fun k hk => by have := hne2 k hk; omega) on5)
        have hM5 := Lib.hid (Nat.le_trans hM4 on5.size)
        have hdv := Lib.hid (hdv4.moved (vb' := vb') (fun k _ hk hc _ => on5.block k hk (fun e => by subst e; obtain ⟨c, hc⟩ := hc; rw [q4] at hc; cases hc)) (.inl rfl))
        have b0 := cellH q5 0 (.slice (some ⟨W.heap.size, 0, none⟩) z.2.2.1.length n) rfl
        have b1 := cellH q5 1 (.int .i64 0) rfl
        have b2' := cellH q5 2 (.int .i64 z.2.2.2) rfl
        rw [hw5]
        clear hw5 on5 a0 a1 a2 u0 u2 hdv4 hD4
        obtain ⟨i0, hi0, iz0, iz1, iz2⟩ := info_parts info34
        go_wp2_with (first
          | (at_builtin; go_must (refine wpList_append_own _ rfl (.tmp 92) (.tmp 94) 26 rfl M 34 i0 (.agg #[.slice none 0 0, .int .i64 0, .int .i64 0]) 3 40 Tryd.underlying26 hi0 iz0 iz1 iz2 rfl (by decide) _ _ _ rfl (hL5.out.out.own.alloc _) ⟨w5.heap.size, 0, none⟩ 1 1 [.slice (some ⟨W.heap.size, 0, none⟩) z.2.2.1.length n, .int .i64 (0), .int .i64 (z.2.2.2)] rfl rfl (cells_three _ _ _ _ _) (by intro u hu; simp at hu; rcases hu with rfl | rfl | rfl <;> rfl) (by unfold maxLen; omega) (by omega) (Nat.le_trans hM5.out (by simp)) ?_; intro v8' w9 hown8 hg8 hnil8)))
        have hL6 := hL5.out.grow hM5.out ((Below.refl _ _).alloc (Nat.le_refl _) (.cells #[.slice (some ⟨W.heap.size, 0, none⟩) z.2.2.1.length n, .int .i64 (0), .int .i64 (z.2.2.2)] 34))
        have hM6 : M ≤ (w5.alloc (.cells #[.slice (some ⟨W.heap.size, 0, none⟩) z.2.2.1.length n, .int .i64 (0), .int .i64 (z.2.2.2)] 34)).heap.size := Nat.le_trans hM5.out (by simp)
        have hL7 := hL6.append (x := ⟨z.2.2.1, 0, z.2.2.2⟩) hM6 (hdv.out.moved (fun k _ hk _ _ => Below.heap_alloc _ _ _ hk) (.inl rfl)) hown8 hg8
        go_roundg g'
        case measure => omega
        case rel => exact ⟨l.length + 1, _, _, _, by go_num, by omega, by omega, hL7, Nat.le_trans hM6 hg8.size, by simp, hp7, hr7, hk7, Lib.hid (by rw [List.map_append, List.append_assoc]; exact F.out)⟩
      · have d1 : dv = 1 := by rcases hoks with h | h <;> omega
        subst d1
        have hb1 : -1099511627776 ≤ nn ∧ nn ≤ 1099511627776 := by rcases hoks with h | h <;> omega
        have hw1 : 0 ≤ wh ∧ wh ≤ 2 := by rcases hoks with h | h <;> omega
        obtain ⟨z, hz⟩ : ∃ z, rrSeek st.2.1.length st.2.2 nn wh = z := ⟨_, rfl⟩
        have hst : stR fails st ⟨1, nn, wh⟩ = ((st.1, st.2.1, z.2.2), ⟨[], z.1, z.2.1⟩) := by
          unfold stR
          simp only [show ¬ ((1 : Int) = 0) by decide, if_false]
          rw [hz]
        rw [hst] at hH1
        have F := Lib.hid hH1
        have hp7 : ∀ p ∈ st.1, p.length ≤ 100000 := hp6
        have hr7 : st.1.length ≤ 100000 := by omega
        have hk7 : st.2.1.length ≤ 100000 + 5000 * (l.length + 1) := by omega
        have hMW : M ≤ W.heap.size := by omega
        have hsk := rseek_abs M B Q st.2.2 fails st.1 st.2.1 vb W a hLp2.rr nn wh _ rfl hw1 hb1 (by omega) hMW
        rw [hz] at hsk
        clear hz hst hH1 hoks
        have e0 : ((1 : Int) == 0) = false := rfl
        have e1 : ((1 : Int) == 1) = true := rfl
        have s0 := cellH q2 0 (.int .i64 1) rfl
        have s1 := cellH q2 1 (.int .i64 nn) rfl
        have s2 := cellH q2 2 (.int .i64 wh) rfl
        have szW' := Lib.hid szW
        have hS' := Lib.hid hS
        clear szW hS
        have hkd := fun (w4 : World) (v : Value) (h1 : LaidE w4 a M) (h2 : ErrV w4 a M z.2.1 v) => kind_any w4 a M z.2.1 v h1 h2
        go_upto_region 17 with (first
          | (go_at_call 47; go_must (refine hsk.mono ?_; rintro e w4 ⟨v, rfl, hE, hR4, hF4⟩);
             have q4 := (hF4.block (S + 1) (ltH q3) (fun e => by subst e; rw [hLp2.rr.hB] at q3; cases q3)).trans q3;
             have hL4 := hLp2.only (st' := (st.1, st.2.1, z.2.2)) hMW hR4 hF4;
             have hM4 : M ≤ w4.heap.size := Nat.le_trans hMW hF4.size;
             have a0 := cellH q4 0 (.slice none 0 0) rfl; have a1 := cellH q4 1 (.int .i64 0) rfl; have a2 := cellH q4 2 (.int .i64 0) rfl; have u1 := frozenH q4 1; have u2 := frozenH q4 2;
             have hkd' := hkd w4 v hL4.la hE)
          | (go_at_call 26; go_must (refine hkd'.mono ?_; rintro e w8 ⟨rfl, hw8⟩; obtain rfl : w4 = w8 := hw8.symm)))
        obtain ⟨w5, hw5⟩ : ∃ w5, ((w4.setCell ⟨S + 1, 1, none⟩ (.int .i64 z.1)).setCell ⟨S + 1, 2, none⟩ (.int .i64 z.2.1)) = w5 := ⟨_, rfl⟩
        have on5 : Only (S + 1) w4 w5 := by rw [← hw5]; exact (Only.set _ _ _ _).trans (Only.set _ _ _ _)
        have q5 : w5.heap[S + 1]? = some (.cells #[.slice none 0 0, .int .i64 z.1, .int .i64 z.2.1] 34 (0, 0)) := by rw [← hw5]; exact setH (setH q4 1 _ (by simp)) 2 _ (by simp)
        have hL5 := Lib.hid (hL4.at34 hM4 q4 (by omega) (fun k hk => by have := hne2 k hk; omega) on5)
        have hM5 := Lib.hid (Nat.le_trans hM4 on5.size)
        have hdv := Lib.hid (DataAt.nil w5 M vb)
        have b0 := cellH q5 0 (.slice none 0 0) rfl
        have b1 := cellH q5 1 (.int .i64 z.1) rfl
        have b2' := cellH q5 2 (.int .i64 z.2.1) rfl
        rw [hw5]
        clear hw5 on5 a0 a1 a2 u1 u2
        obtain ⟨i0, hi0, iz0, iz1, iz2⟩ := info_parts info34
        go_wp2_with (first
          | (at_builtin; go_must (refine wpList_append_own _ rfl (.tmp 92) (.tmp 94) 26 rfl M 34 i0 (.agg #[.slice none 0 0, .int .i64 0, .int .i64 0]) 3 40 Tryd.underlying26 hi0 iz0 iz1 iz2 rfl (by decide) _ _ _ rfl (hL5.out.out.own.alloc _) ⟨w5.heap.size, 0, none⟩ 1 1 [.slice none 0 0, .int .i64 (z.1), .int .i64 (z.2.1)] rfl rfl (cells_three _ _ _ _ _) (by intro u hu; simp at hu; rcases hu with rfl | rfl | rfl <;> rfl) (by unfold maxLen; omega) (by omega) (Nat.le_trans hM5.out (by simp)) ?_; intro v8' w9 hown8 hg8 hnil8)))
        have hL6 := hL5.out.grow hM5.out ((Below.refl _ _).alloc (Nat.le_refl _) (.cells #[.slice none 0 0, .int .i64 (z.1), .int .i64 (z.2.1)] 34))
        have hM6 : M ≤ (w5.alloc (.cells #[.slice none 0 0, .int .i64 (z.1), .int .i64 (z.2.1)] 34)).heap.size := Nat.le_trans hM5.out (by simp)
        have hL7 := hL6.append (x := ⟨[], z.1, z.2.1⟩) hM6 (hdv.out.moved (fun k _ hk _ _ => Below.heap_alloc _ _ _ hk) (.inl rfl)) hown8 hg8
        go_roundg g'
        case measure => omega
        case rel => exact ⟨l.length + 1, _, _, _, by go_num, by omega, by omega, hL7, Nat.le_trans hM6 hg8.size, by simp, hp7, hr7, hk7, Lib.hid (by rw [List.map_append, List.append_assoc]; exact F.out)⟩
    · have hfin : l.map (·.2) = runR fails st0 steps := by
        have := hH.out
        rw [List.drop_eq_nil_of_le (by omega)] at this
        simpa [runR] using this
      have hlt' : ¬ ((l.length : Int) < (steps.length : Int)) := by omega
      have hfin' := Lib.hid hfin
      clear hfin hH
      go_wp2
      go_ret
      first | exact ⟨_, l, rfl, hfin'.out, ⟨vb, hLp.out⟩, hLp.bel⟩ | exact ⟨_, rfl, ⟨l, hfin'.out, vb, hLp.out⟩, hLp.bel⟩ | exact ⟨_, rfl, l, hfin'.out, ⟨vb, hLp.out⟩, hLp.bel⟩
end Go.Proofs.YtgbcmjbiddkldaaDoor.Given
