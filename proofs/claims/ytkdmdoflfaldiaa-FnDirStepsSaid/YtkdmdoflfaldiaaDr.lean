/- The contract of spec.Dirs.Step's flush of a path: what is below it goes from both lists, pair by pair. Up to 900,000 pairs. -/
import Derived.Test.YtkdmdoflfaldiaaDq
namespace Go.Proofs.Ytkdmdoflfaldiaa.Given
open Go.RowKit Go.WideMaps Go.Maps Go.Proofs.YtkdmdoflfaldiaaW.PrintWords Go.Proofs.Ytkdmdoflfaldiaa.PD Go.Proofs.Ytkdmdoflfaldiaa.Pl
set_option linter.unusedVariables false
set_option linter.unusedSimpArgs false

set_option maxHeartbeats 4000000 in
set_option maxRecDepth 100000 in
theorem dirs_flush (w : World) (B base : Nat) (v1 v2 : Value) (lp lb : List S31) (a b id : ByteArray) (h : DirsB w B base v1 v2 lp lb) (hbase : base ≤ w.heap.size) (h1 : lp.length ≤ 900000) (h2 : lb.length ≤ 900000) (ha : a ≠ ⟨#[]⟩) :
    Calls Try.prog 13 #[.pointer (some ⟨B, 0, none⟩), .agg #[.int .i64 3, .string a, .string b], .string id] w fun e w' => e = .returned (.agg #[.string ⟨#[]⟩, .bool false]) ∧
      ∃ v1' v2', DirsB w' B base v1' v2' (flS a lp lp lb).1 (flS a lp lp lb).2 ∧ Keep (fun k => k ≠ B) w w' := by
  have H := st0 w B base v1 v2 lp lb 3 a b h hbase
  have s0 := cellH H.q2 0 (.int .i64 3) rfl
  have s1 := cellH H.q2 1 (.string a) rfl
  have s2 := cellH H.q2 2 (.string b) rfl
  have e0 : ((3 : Int) == 0) = false := rfl
  have e1 : ((3 : Int) == 1) = false := rfl
  have e2 : ((3 : Int) == 2) = false := rfl
  have e3 : ((3 : Int) == 3) = true := rfl
  have ea := e_em ha
  clear h hbase ha
  go_enter Try.func13, Try.ntmps13
  go_upto_region 12 with fail
  obtain ⟨W, hW⟩ : ∃ W, ((w.alloc (.cells #[.int .i64 3, .string a, .string b] 34)).alloc (.cells #[.string ⟨#[]⟩, .bool false] 40)) = W := ⟨_, rfl⟩
  obtain ⟨S, hS⟩ : ∃ S, w.heap.size = S := ⟨_, rfl⟩
  rw [hW, hS] at H s0 s1 s2
  rw [hW, hS]
  clear hW
  obtain ⟨A1, c1, ee1⟩ := own_slice H.g1.o1
  subst ee1
  obtain ⟨n, hn⟩ : ∃ n, lp.length = n := ⟨_, rfl⟩
  have ob := H.g1.o1
  rw [hn] at ob
  have c0 := cellH H.g1.hB 0 (.slice A1 n c1) (by rw [hn]; rfl)
  clear s0 s1 s2 e0 e1 e2 e3 ea
  go_wp2
  go_loopg [87] n (fun gf s87 wx => ∃ (i : Nat) (v1x v2x : Value) (lpx lbx : List S31), s87 = .int .i64 i ∧ i ≤ n ∧ n ≤ i + gf ∧ wx.ownsRow base 31 2 (.slice A1 n c1) n (flat31 lp) ∧ DirsB wx B base v1x v2x lpx lbx ∧ lpx.length ≤ 900000 ∧ lbx.length ≤ 900000 ∧
      Keep (fun k => k ≠ B) W wx ∧ Hid (flS a (lp.drop i) lpx lbx = flS a lp lp lb))
  case atStart => exact ⟨0, _, _, lp, lb, rfl, Nat.zero_le _, by omega, ob, H.g1, h1, h2, Keep.refl _ _, Lib.hid rfl⟩
  case round =>
    obtain ⟨i, v1x, v2x, lpx, lbx, rfl, hi, hfu, hob, hD, l1, l2, hK, hH⟩ := hrel
    have sz := H.sz
    have lB := H.lB
    have hbs := H.hb
    have szr := hK.size
    have q2 := (hK.block S (by omega) (by omega)).trans H.q2
    have q3 := (hK.block (S + 1) (by omega) (by omega)).trans H.q3
    clear c0
    by_cases hlt : i < n
    · obtain ⟨g', rfl⟩ : ∃ g', gk = g' + 1 := ⟨gk - 1, by omega⟩
      have hk : i < lp.length := by omega
      obtain ⟨hC, hc⟩ := C_of_own hn.symm hob
      rw [hn] at hC
      obtain ⟨ad, hA0, x0, x1⟩ := at_T31 hC (i : Int) (by omega) (by omega)
      have hsl : rd_T31 lp (i : Int) = lp[i] := by simp [rd_T31, hk]
      rw [hsl] at x0 x1
      have hH1 := hH.out
      rw [List.drop_eq_getElem_cons hk] at hH1
      obtain ⟨p, hp⟩ : ∃ p, lp[i] = p := ⟨_, rfl⟩
      rw [hp] at x0 x1 hH1
      simp only [Int.toNat_natCast] at x0 x1
      simp only [flS] at hH1
      subst hA0
      obtain ⟨pk, pv⟩ := p
      simp only at x0 x1 hH1
      clear hH hsl hp hC
      obtain ⟨P, hP⟩ : ∃ P, wr.heap.size = P := ⟨_, rfl⟩
      have r0 := (MapKept.heap_alloc wr (.cells #[.string pk, .string pv] 31)).1
      rw [hP] at r0
      have y0 := cellH r0 0 (.string pk) rfl
      have y1 := cellH r0 1 (.string pv) rfl
      have b1 : Below wr.heap.size wr (wr.alloc (.cells #[.string pk, .string pv] 31)) := (Below.refl _ _).alloc (Nat.le_refl _) _
      have q2' := (b1.block S (by omega)).trans q2
      have s1 := cellH q2' 1 (.string a) rfl
      have lP : P < (wr.alloc (.cells #[.string pk, .string pv] 31)).heap.size := ltH r0
      have hbl := bl_is pk a
      by_cases hb : bl pk a = true
      · rw [if_pos hb] at hH1
        rw [hb] at hbl
        have F := Lib.hid hH1
        clear hH1
        obtain ⟨A2, c2, ee2⟩ := own_slice hD.o2
        subst ee2
        go_upto_region 16 with (go_at_call 28; go_must (refine (spec_below.calls pk a true _ hbl).mono ?_; rintro e w2 ⟨rfl, hdr⟩))
        have k2 : Keep (fun k => k ≠ B) wr w2 := (Keep.ofBelow b1 (fun k hk _ => hk)).trans (Keep.ofBelow hdr.below (fun k hk _ => hk))
        have m2 : ∀ k, k < wr.heap.size → w2.heap[k]? = wr.heap[k]? := fun k hk => (hdr.below.block k (Nat.lt_of_lt_of_le hk b1.size)).trans (b1.block k hk)
        have hob2 := own_move hob (fun k e => m2 k (own_lt hob k e))
        have g2 := hD.keep m2
        have r2 := (hdr.below.block P lP).trans r0
        have lP2 := ltH r2
        have lB2 := ltH g2.hB
        have K2 := hK.trans k2
        clear m2 k2 hdr b1 r0 lP x0 x1 hob hD hK q2 q2' q3 s1 y0 y1
        have y0 := cellH r2 0 (.string pk) rfl
        have y1 := cellH r2 1 (.string pv) rfl
        have d0 := cellH g2.hB 1 (.slice A2 lbx.length c2) rfl
        have h9 : lbx.length ≤ 1000000 := by omega
        have hBP : B ≠ P := neT g2.hB r2 (by decide)
        have base2 : base ≤ w2.heap.size := by have := K2.size; omega
        have o2d : Hid (w2.drew.ownsRow base 31 2 (.slice A2 lbx.length c2) lbx.length (flat31 lbx)) := Lib.hid g2.o2.drew
        have bd : Hid (Below w2.heap.size w2 w2.drew) := Lib.hid (below_drew1 (Below.refl _ _))
        refine wp_region_noPanic ?_
        refine wp_region_held_drew (S := (fun w' => w'.cell? ⟨P, 0, none⟩ = some (.string pk) ∧ w'.cell? ⟨P, 1, none⟩ = some (.string pv))) (by kernel_rfl) ?h1 (fun hHeld => ?k1)
        case h1 => ((try dsimp only); (first | go_keep | (refine ⟨?_, ?_⟩ <;> first | assumption | go_keep | (rw [World.cell?_setCell_far _ _ _ _ hBP]; assumption))))
        refine wpAnyH_take (i := 0) (oi := { dst := some 96, op := Go.Op.move (Go.Operand.tmp 0), type := 50, pos := "paths.go:158", after := #[], guard := none }) (v := ?v2) rfl (by kernel_rfl) (by kernel_rfl) (by kernel_rfl) (fun _ _ _ h => h) (Or.inl ⟨by rfl, ?y2⟩) (by assumption) ?r2
        case y2 => (intro w hSw; (try dsimp only at hSw); first | (go_simp; done) | (go_simp; with_reducible rfl))
        try simp only [Act.put, List.setIfInBounds_toArray, List.set_cons_zero, List.set_cons_succ]
        refine wpAnyH_take (i := 1) (oi := { dst := some 97, op := Go.Op.move (Go.Operand.tmp 0), type := 50, pos := "paths.go:158", after := #[], guard := none }) (v := ?v3) rfl (by kernel_rfl) (by kernel_rfl) (by kernel_rfl) (fun _ _ _ h => h) (Or.inl ⟨by rfl, ?y3⟩) (by assumption) ?r3
        case y3 => (intro w hSw; (try dsimp only at hSw); first | (go_simp; done) | (go_simp; with_reducible rfl))
        try simp only [Act.put, List.setIfInBounds_toArray, List.set_cons_zero, List.set_cons_succ]
        refine wpAnyH_take (i := 2) (oi := { dst := some 98, op := Go.Op.nilCheck (Go.Operand.tmp 97), type := 0, pos := "paths.go:158", after := #[{ on := 1, ground := Go.Ground.data }], guard := none }) (v := ?v4) rfl (by kernel_rfl) (by kernel_rfl) (by kernel_rfl) (fun _ _ _ h => h) (Or.inl ⟨by rfl, ?y4⟩) (by assumption) ?r4
        case y4 => (intro w hSw; (try dsimp only at hSw); first | (go_simp; done) | (go_simp; with_reducible rfl))
        try simp only [Act.put, List.setIfInBounds_toArray, List.set_cons_zero, List.set_cons_succ]
        refine wpAnyH_take (i := 3) (oi := { dst := some 99, op := Go.Op.fieldAddr 38 (Go.Operand.tmp 98) 1, type := 0, pos := "paths.go:158", after := #[{ on := 2, ground := Go.Ground.data }], guard := none }) (v := ?v5) rfl (by kernel_rfl) (by kernel_rfl) (by kernel_rfl) (fun _ _ _ h => h) (Or.inl ⟨by rfl, ?y5⟩) (by assumption) ?r5
        case y5 => (intro w hSw; (try dsimp only at hSw); first | (go_simp; done) | (go_simp; with_reducible rfl))
        try simp only [Act.put, List.setIfInBounds_toArray, List.set_cons_zero, List.set_cons_succ]
        refine wpAnyH_take (i := 5) (oi := { dst := some 101, op := Go.Op.fieldAddr 31 (Go.Operand.tmp 8) 1, type := 0, pos := "paths.go:158", after := #[], guard := none }) (v := ?v6) rfl (by kernel_rfl) (by kernel_rfl) (by kernel_rfl) (fun _ _ _ h => h) (Or.inl ⟨by rfl, ?y6⟩) (by assumption) ?r6
        case y6 => (intro w hSw; (try dsimp only at hSw); first | (go_simp; done) | (go_simp; with_reducible rfl))
        try simp only [Act.put, List.setIfInBounds_toArray, List.set_cons_zero, List.set_cons_succ]
        refine wpAnyH_take (i := 6) (oi := { dst := some 102, op := Go.Op.load 9 (Go.Operand.tmp 101), type := 9, pos := "paths.go:158", after := #[{ on := 5, ground := Go.Ground.data }], guard := none }) (v := ?v7) rfl (by kernel_rfl) (by kernel_rfl) (by kernel_rfl) (fun _ _ _ h => h) (Or.inl ⟨by rfl, ?y7⟩) (by assumption) ?r7
        case y7 => (intro w hSw; (try dsimp only at hSw); first | (go_simp; done) | (go_simp; with_reducible rfl))
        try simp only [Act.put, List.setIfInBounds_toArray, List.set_cons_zero, List.set_cons_succ]
        refine wpAnyH_ready (rs := [4]) (by kernel_rfl) (by simp) ?_
        refine AllReadyH.cons (o := { dst := some 100, op := Go.Op.load 32 (Go.Operand.tmp 99), type := 32, pos := "paths.go:158", after := #[{ on := 3, ground := Go.Ground.data }], guard := none }) rfl (fun K hK => ?s8) ?m8
        case m8 => exact AllReadyH.nil
        go_simp
        refine hK.out _ _ ?h8 (fun hHeld => ?k8)
        case h8 => ((try dsimp only); (first | go_keep | (refine ⟨?_, ?_⟩ <;> first | assumption | go_keep | (rw [World.cell?_setCell_far _ _ _ _ hBP]; assumption))))
        clear hK K
        try simp only [Act.put, List.setIfInBounds_toArray, List.set_cons_zero, List.set_cons_succ]
        refine wpAnyH_ready (rs := [7]) (by kernel_rfl) (by simp) ?_
        refine AllReadyH.cons (o := { dst := some 103, op := Go.Op.call { callee := Go.Callee.value (Go.Operand.func 26), args := #[Go.Operand.tmp 100, Go.Operand.tmp 102], argTypes := #[32, 9] }, type := 32, pos := "paths.go:158", after := #[{ on := 4, ground := Go.Ground.data }, { on := 6, ground := Go.Ground.data }], guard := none }) rfl (fun K hK => ?s9) ?m9
        case m9 => exact AllReadyH.nil
        go_simp; go_at_call 26; refine (wo_any _ base A2 lbx.length c2 lbx pv rfl ?own h9).mono ?_; (case own => with_reducible exact o2d.out); rintro e w5 ⟨v5, rfl, own5', hb5⟩; have own5 := own_mono (b' := w2.heap.size) own5' bd.out.size; have b5 : Below w2.heap.size w2 w5 := bd.out.trans (hb5.mono bd.out.size); have h5B := (b5.block B lB2).trans g2.hB; have k50 := cellH ((b5.block P lP2).trans r2) 0 (.string pk) rfl; have k51 := cellH ((b5.block P lP2).trans r2) 1 (.string pv) rfl; have x5 := cellH h5B 1 (.slice A2 lbx.length c2) rfl; have y5 := frozenH h5B 1; obtain ⟨A5, c5, e5⟩ := own_slice own5; subst e5
        refine hK.out _ _ ?h9 (fun hHeld => ?k9)
        case h9 => ((try dsimp only); (first | go_keep | (refine ⟨?_, ?_⟩ <;> first | assumption | go_keep | (rw [World.cell?_setCell_far _ _ _ _ hBP]; assumption))))
        clear hK K
        try simp only [Act.put, List.setIfInBounds_toArray, List.set_cons_zero, List.set_cons_succ]
        refine wpAnyH_take (i := 8) (oi := { dst := some 104, op := Go.Op.nilCheck (Go.Operand.tmp 96), type := 0, pos := "paths.go:158", after := #[{ on := 0, ground := Go.Ground.data }, { on := 0, ground := Go.Ground.phase }, { on := 1, ground := Go.Ground.phase }, { on := 2, ground := Go.Ground.phase }, { on := 3, ground := Go.Ground.phase }, { on := 4, ground := Go.Ground.phase }, { on := 5, ground := Go.Ground.phase }, { on := 6, ground := Go.Ground.phase }, { on := 7, ground := Go.Ground.phase }], guard := none }) (v := ?v10) rfl (by kernel_rfl) (by kernel_rfl) (by kernel_rfl) (fun _ _ _ h => h) (Or.inl ⟨by rfl, ?y10⟩) (by assumption) ?r10
        case y10 => (intro w hSw; (try dsimp only at hSw); first | (go_simp; done) | (go_simp; with_reducible rfl))
        try simp only [Act.put, List.setIfInBounds_toArray, List.set_cons_zero, List.set_cons_succ]
        refine wpAnyH_take (i := 9) (oi := { dst := some 105, op := Go.Op.fieldAddr 38 (Go.Operand.tmp 104) 1, type := 0, pos := "paths.go:158", after := #[{ on := 8, ground := Go.Ground.data }, { on := 0, ground := Go.Ground.phase }, { on := 1, ground := Go.Ground.phase }, { on := 2, ground := Go.Ground.phase }, { on := 3, ground := Go.Ground.phase }, { on := 4, ground := Go.Ground.phase }, { on := 5, ground := Go.Ground.phase }, { on := 6, ground := Go.Ground.phase }, { on := 7, ground := Go.Ground.phase }], guard := none }) (v := ?v11) rfl (by kernel_rfl) (by kernel_rfl) (by kernel_rfl) (fun _ _ _ h => h) (Or.inl ⟨by rfl, ?y11⟩) (by assumption) ?r11
        case y11 => (intro w hSw; (try dsimp only at hSw); first | (go_simp; done) | (go_simp; with_reducible rfl))
        try simp only [Act.put, List.setIfInBounds_toArray, List.set_cons_zero, List.set_cons_succ]
        refine wpAnyH_ready (rs := [10]) (by kernel_rfl) (by simp) ?_
        refine AllReadyH.cons (o := { dst := none, op := Go.Op.store 32 (Go.Operand.tmp 105) (Go.Operand.tmp 103), type := 0, pos := "paths.go:158", after := #[{ on := 9, ground := Go.Ground.data }, { on := 7, ground := Go.Ground.data }, { on := 7, ground := Go.Ground.chain }, { on := 0, ground := Go.Ground.phase }, { on := 1, ground := Go.Ground.phase }, { on := 2, ground := Go.Ground.phase }, { on := 3, ground := Go.Ground.phase }, { on := 4, ground := Go.Ground.phase }, { on := 5, ground := Go.Ground.phase }, { on := 6, ground := Go.Ground.phase }, { on := 7, ground := Go.Ground.phase }], guard := none }) rfl (fun K hK => ?s12) ?m12
        case m12 => exact AllReadyH.nil
        go_simp
        refine hK.out _ _ ?h12 (fun hHeld => ?k12)
        case h12 => ((try dsimp only); (first | go_keep | (refine ⟨?_, ?_⟩ <;> first | assumption | go_keep | (rw [World.cell?_setCell_far _ _ _ _ hBP]; assumption))))
        clear hK K
        try simp only [Act.put, List.setIfInBounds_toArray, List.set_cons_zero, List.set_cons_succ]
        refine wpAnyH_done (by kernel_rfl) ?_ _
        refine NoPanic.normal ?_
        obtain ⟨_, g3⟩ := B_step g2 b5.block _ _ own5 base2
        have k3 := keepB_step (B := B) (j := 1) (.slice A5 (wo lbx pv).length c5) b5
        have K3 := K2.trans k3
        have hob3 := own_move hob2 (fun k e => k3.block k (own_lt hob2 k e) (fun e' => own_ne hob2 g2.hB (by decide) (by rw [e, e'])))
        have r3 := (k3.block P lP2 (by omega)).trans r2
        have l3 := wo_le lbx pv
        have base3 := Nat.le_trans base2 k3.size
        obtain ⟨w3, hw3⟩ : ∃ w3, w5.setCell ⟨B, 1, none⟩ (.slice A5 (wo lbx pv).length c5) = w3 := ⟨_, rfl⟩
        rw [hw3] at g3 K3 hob3 r3 base3
        go_upto_region 17 with fail
        rw [hw3]
        clear hw3 k3 b5 h5B k50 k51 x5 y5 own5 own5' hb5 bd o2d d0 y0 y1 lB2 lP2 K2 hob2 r2 g2
        obtain ⟨A3, c3, ee3⟩ := own_slice g3.o1
        subst ee3
        have lP3 := ltH r3
        have lB3 := ltH g3.hB
        have y0 := cellH r3 0 (.string pk) rfl
        have y1 := cellH r3 1 (.string pv) rfl
        have d0 := cellH g3.hB 0 (.slice A3 lpx.length c3) rfl
        have h8 : lpx.length ≤ 1000000 := by omega
        have o3d : Hid (w3.drew.ownsRow base 31 2 (.slice A3 lpx.length c3) lpx.length (flat31 lpx)) := Lib.hid g3.o1.drew
        have bd : Hid (Below w3.heap.size w3 w3.drew) := Lib.hid (below_drew1 (Below.refl _ _))
        refine wp_region_noPanic ?_
        refine wp_region_held_drew (S := (fun w' => w'.cell? ⟨P, 0, none⟩ = some (.string pk) ∧ w'.cell? ⟨P, 1, none⟩ = some (.string pv))) (by kernel_rfl) ?h13 (fun hHeld => ?k13)
        case h13 => ((try dsimp only); (first | go_keep | (refine ⟨?_, ?_⟩ <;> first | assumption | go_keep | (rw [World.cell?_setCell_far _ _ _ _ hBP]; assumption))))
        refine wpAnyH_take (i := 0) (oi := { dst := some 106, op := Go.Op.move (Go.Operand.tmp 0), type := 50, pos := "paths.go:159", after := #[], guard := none }) (v := ?v14) rfl (by kernel_rfl) (by kernel_rfl) (by kernel_rfl) (fun _ _ _ h => h) (Or.inl ⟨by rfl, ?y14⟩) (by assumption) ?r14
        case y14 => (intro w hSw; (try dsimp only at hSw); first | (go_simp; done) | (go_simp; with_reducible rfl))
        try simp only [Act.put, List.setIfInBounds_toArray, List.set_cons_zero, List.set_cons_succ]
        refine wpAnyH_take (i := 1) (oi := { dst := some 107, op := Go.Op.move (Go.Operand.tmp 0), type := 50, pos := "paths.go:159", after := #[], guard := none }) (v := ?v15) rfl (by kernel_rfl) (by kernel_rfl) (by kernel_rfl) (fun _ _ _ h => h) (Or.inl ⟨by rfl, ?y15⟩) (by assumption) ?r15
        case y15 => (intro w hSw; (try dsimp only at hSw); first | (go_simp; done) | (go_simp; with_reducible rfl))
        try simp only [Act.put, List.setIfInBounds_toArray, List.set_cons_zero, List.set_cons_succ]
        refine wpAnyH_take (i := 2) (oi := { dst := some 108, op := Go.Op.nilCheck (Go.Operand.tmp 107), type := 0, pos := "paths.go:159", after := #[{ on := 1, ground := Go.Ground.data }], guard := none }) (v := ?v16) rfl (by kernel_rfl) (by kernel_rfl) (by kernel_rfl) (fun _ _ _ h => h) (Or.inl ⟨by rfl, ?y16⟩) (by assumption) ?r16
        case y16 => (intro w hSw; (try dsimp only at hSw); first | (go_simp; done) | (go_simp; with_reducible rfl))
        try simp only [Act.put, List.setIfInBounds_toArray, List.set_cons_zero, List.set_cons_succ]
        refine wpAnyH_take (i := 3) (oi := { dst := some 109, op := Go.Op.fieldAddr 38 (Go.Operand.tmp 108) 0, type := 0, pos := "paths.go:159", after := #[{ on := 2, ground := Go.Ground.data }], guard := none }) (v := ?v17) rfl (by kernel_rfl) (by kernel_rfl) (by kernel_rfl) (fun _ _ _ h => h) (Or.inl ⟨by rfl, ?y17⟩) (by assumption) ?r17
        case y17 => (intro w hSw; (try dsimp only at hSw); first | (go_simp; done) | (go_simp; with_reducible rfl))
        try simp only [Act.put, List.setIfInBounds_toArray, List.set_cons_zero, List.set_cons_succ]
        refine wpAnyH_take (i := 5) (oi := { dst := some 111, op := Go.Op.fieldAddr 31 (Go.Operand.tmp 8) 0, type := 0, pos := "paths.go:159", after := #[], guard := none }) (v := ?v18) rfl (by kernel_rfl) (by kernel_rfl) (by kernel_rfl) (fun _ _ _ h => h) (Or.inl ⟨by rfl, ?y18⟩) (by assumption) ?r18
        case y18 => (intro w hSw; (try dsimp only at hSw); first | (go_simp; done) | (go_simp; with_reducible rfl))
        try simp only [Act.put, List.setIfInBounds_toArray, List.set_cons_zero, List.set_cons_succ]
        refine wpAnyH_take (i := 6) (oi := { dst := some 112, op := Go.Op.load 9 (Go.Operand.tmp 111), type := 9, pos := "paths.go:159", after := #[{ on := 5, ground := Go.Ground.data }], guard := none }) (v := ?v19) rfl (by kernel_rfl) (by kernel_rfl) (by kernel_rfl) (fun _ _ _ h => h) (Or.inl ⟨by rfl, ?y19⟩) (by assumption) ?r19
        case y19 => (intro w hSw; (try dsimp only at hSw); first | (go_simp; done) | (go_simp; with_reducible rfl))
        try simp only [Act.put, List.setIfInBounds_toArray, List.set_cons_zero, List.set_cons_succ]
        refine wpAnyH_ready (rs := [4]) (by kernel_rfl) (by simp) ?_
        refine AllReadyH.cons (o := { dst := some 110, op := Go.Op.load 32 (Go.Operand.tmp 109), type := 32, pos := "paths.go:159", after := #[{ on := 3, ground := Go.Ground.data }], guard := none }) rfl (fun K hK => ?s20) ?m20
        case m20 => exact AllReadyH.nil
        go_simp
        refine hK.out _ _ ?h20 (fun hHeld => ?k20)
        case h20 => ((try dsimp only); (first | go_keep | (refine ⟨?_, ?_⟩ <;> first | assumption | go_keep | (rw [World.cell?_setCell_far _ _ _ _ hBP]; assumption))))
        clear hK K
        try simp only [Act.put, List.setIfInBounds_toArray, List.set_cons_zero, List.set_cons_succ]
        refine wpAnyH_ready (rs := [7]) (by kernel_rfl) (by simp) ?_
        refine AllReadyH.cons (o := { dst := some 113, op := Go.Op.call { callee := Go.Callee.value (Go.Operand.func 26), args := #[Go.Operand.tmp 110, Go.Operand.tmp 112], argTypes := #[32, 9] }, type := 32, pos := "paths.go:159", after := #[{ on := 4, ground := Go.Ground.data }, { on := 6, ground := Go.Ground.data }], guard := none }) rfl (fun K hK => ?s21) ?m21
        case m21 => exact AllReadyH.nil
        go_simp; go_at_call 26; refine (wo_any _ base A3 lpx.length c3 lpx pk rfl ?own h8).mono ?_; (case own => with_reducible exact o3d.out); rintro e w7 ⟨v7, rfl, own7', hb7⟩; have own7 := own_mono (b' := w3.heap.size) own7' bd.out.size; have b7 : Below w3.heap.size w3 w7 := bd.out.trans (hb7.mono bd.out.size); have h7B := (b7.block B lB3).trans g3.hB; have k70 := cellH ((b7.block P lP3).trans r3) 0 (.string pk) rfl; have k71 := cellH ((b7.block P lP3).trans r3) 1 (.string pv) rfl; have x7 := cellH h7B 0 (.slice A3 lpx.length c3) rfl; have y7 := frozenH h7B 0; obtain ⟨A7, c7, e7⟩ := own_slice own7; subst e7
        refine hK.out _ _ ?h21 (fun hHeld => ?k21)
        case h21 => ((try dsimp only); (first | go_keep | (refine ⟨?_, ?_⟩ <;> first | assumption | go_keep | (rw [World.cell?_setCell_far _ _ _ _ hBP]; assumption))))
        clear hK K
        try simp only [Act.put, List.setIfInBounds_toArray, List.set_cons_zero, List.set_cons_succ]
        refine wpAnyH_take (i := 8) (oi := { dst := some 114, op := Go.Op.nilCheck (Go.Operand.tmp 106), type := 0, pos := "paths.go:159", after := #[{ on := 0, ground := Go.Ground.data }, { on := 0, ground := Go.Ground.phase }, { on := 1, ground := Go.Ground.phase }, { on := 2, ground := Go.Ground.phase }, { on := 3, ground := Go.Ground.phase }, { on := 4, ground := Go.Ground.phase }, { on := 5, ground := Go.Ground.phase }, { on := 6, ground := Go.Ground.phase }, { on := 7, ground := Go.Ground.phase }], guard := none }) (v := ?v22) rfl (by kernel_rfl) (by kernel_rfl) (by kernel_rfl) (fun _ _ _ h => h) (Or.inl ⟨by rfl, ?y22⟩) (by assumption) ?r22
        case y22 => (intro w hSw; (try dsimp only at hSw); first | (go_simp; done) | (go_simp; with_reducible rfl))
        try simp only [Act.put, List.setIfInBounds_toArray, List.set_cons_zero, List.set_cons_succ]
        refine wpAnyH_take (i := 9) (oi := { dst := some 115, op := Go.Op.fieldAddr 38 (Go.Operand.tmp 114) 0, type := 0, pos := "paths.go:159", after := #[{ on := 8, ground := Go.Ground.data }, { on := 0, ground := Go.Ground.phase }, { on := 1, ground := Go.Ground.phase }, { on := 2, ground := Go.Ground.phase }, { on := 3, ground := Go.Ground.phase }, { on := 4, ground := Go.Ground.phase }, { on := 5, ground := Go.Ground.phase }, { on := 6, ground := Go.Ground.phase }, { on := 7, ground := Go.Ground.phase }], guard := none }) (v := ?v23) rfl (by kernel_rfl) (by kernel_rfl) (by kernel_rfl) (fun _ _ _ h => h) (Or.inl ⟨by rfl, ?y23⟩) (by assumption) ?r23
        case y23 => (intro w hSw; (try dsimp only at hSw); first | (go_simp; done) | (go_simp; with_reducible rfl))
        try simp only [Act.put, List.setIfInBounds_toArray, List.set_cons_zero, List.set_cons_succ]
        refine wpAnyH_ready (rs := [10]) (by kernel_rfl) (by simp) ?_
        refine AllReadyH.cons (o := { dst := none, op := Go.Op.store 32 (Go.Operand.tmp 115) (Go.Operand.tmp 113), type := 0, pos := "paths.go:159", after := #[{ on := 9, ground := Go.Ground.data }, { on := 7, ground := Go.Ground.data }, { on := 7, ground := Go.Ground.chain }, { on := 0, ground := Go.Ground.phase }, { on := 1, ground := Go.Ground.phase }, { on := 2, ground := Go.Ground.phase }, { on := 3, ground := Go.Ground.phase }, { on := 4, ground := Go.Ground.phase }, { on := 5, ground := Go.Ground.phase }, { on := 6, ground := Go.Ground.phase }, { on := 7, ground := Go.Ground.phase }], guard := none }) rfl (fun K hK => ?s24) ?m24
        case m24 => exact AllReadyH.nil
        go_simp
        refine hK.out _ _ ?h24 (fun hHeld => ?k24)
        case h24 => ((try dsimp only); (first | go_keep | (refine ⟨?_, ?_⟩ <;> first | assumption | go_keep | (rw [World.cell?_setCell_far _ _ _ _ hBP]; assumption))))
        clear hK K
        try simp only [Act.put, List.setIfInBounds_toArray, List.set_cons_zero, List.set_cons_succ]
        refine wpAnyH_done (by kernel_rfl) ?_ _
        refine NoPanic.normal ?_
        obtain ⟨g4, _⟩ := B_step g3 b7.block _ _ own7 base3
        have k4 := keepB_step (B := B) (j := 0) (.slice A7 (wo lpx pk).length c7) b7
        have K4 := K3.trans k4
        have hob4 := own_move hob3 (fun k e => k4.block k (own_lt hob3 k e) (fun e' => own_ne hob3 g3.hB (by decide) (by rw [e, e'])))
        have l4 := wo_le lpx pk
        clear sz szr
        go_wp2_with fail
        go_roundg g'
        case measure => omega
        case rel => exact ⟨i + 1, _, _, wo lpx pk, wo lbx pv, by go_num, by omega, by omega, hob4, g4, by omega, by omega, K4, F⟩
      · have hb' : bl pk a = false := by simpa using hb
        rw [if_neg hb] at hH1
        rw [hb'] at hbl
        have F := Lib.hid hH1
        clear hH1
        go_wp2_with (go_at_call 28; go_must (refine (spec_below.calls pk a false _ hbl).mono ?_; rintro e w2 ⟨rfl, hdr⟩))
        have k2 : Keep (fun k => k ≠ B) wr w2 := (Keep.ofBelow b1 (fun k hk _ => hk)).trans (Keep.ofBelow hdr.below (fun k hk _ => hk))
        have m2 : ∀ k, k < wr.heap.size → w2.heap[k]? = wr.heap[k]? := fun k hk => (hdr.below.block k (Nat.lt_of_lt_of_le hk b1.size)).trans (b1.block k hk)
        go_roundg g'
        case measure => omega
        case rel => exact ⟨i + 1, v1x, v2x, lpx, lbx, by go_num, by omega, by omega, own_move hob (fun k e => m2 k (own_lt hob k e)), hD.keep m2, l1, l2, hK.trans k2, F⟩
    · have hil : i = n := by omega
      subst hil
      have hfin := hH.out
      rw [List.drop_eq_nil_of_le (by omega)] at hfin
      simp only [flS] at hfin
      obtain ⟨p1, p2, p3⟩ := ans_set (.string ⟨#[]⟩) (.bool false) hD q3 (H.bl2.trans hK) hS
      have a0 := cellH q3 0 (.string ⟨#[]⟩) rfl
      have a1 := cellH q3 1 (.bool false) rfl
      have u0 := frozenH q3 0
      have u1 := frozenH q3 1
      have hfn := Lib.hid hfin
      clear hfin hH sz szr
      go_wp2_with fail
      refine bodyPost_ret (res13 (p := S + 1) rfl (cellH p1 0 _ rfl) (cellH p1 1 _ rfl)) rfl ?_
      exact ⟨rfl, _, _, by rw [← hfn.out]; exact p2, p3⟩
end Go.Proofs.Ytkdmdoflfaldiaa.Given
