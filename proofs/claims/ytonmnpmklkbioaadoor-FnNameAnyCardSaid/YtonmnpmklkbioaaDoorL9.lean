/- The walk of laws.FnNameFrom. -/
import Derived.Test.YtonmnpmklkbioaaDoorDt
import Derived.Lib.IfaceEq
namespace Go.Proofs.YtonmnpmklkbioaaDoor.Given
open Go.RowKit Go.Proofs.YtonmnpmklkbioaaDoorW.PrintWords Go.Proofs.YtonmnpmklkbioaaDoorW.PrintLast Go.Proofs.YtonmnpmklkbioaaDoorW.PrintMore Go.Proofs.YtonmnpmklkbioaaDoor.PN
open Go.Proofs.YtonmnpmklkbioaaDoor.Pt (Ch Tk flat chars Pr decC dleft dright dmid undotC unq qt lsign)
open Go.Proofs.YtonmnpmklkbioaaDoor.Sy (tl strB tl_size strB_tl tl_strB tkm tkm_ok hasB ErrOk dmidA)
set_option linter.unusedVariables false
set_option linter.unusedSimpArgs false
theorem dmid_len (k : Tk) : ∀ (f : Nat) (L : List Ch), (dmid k f L).length ≤ f
  | 0, _ => Nat.le_refl _
  | f + 1, [] => Nat.zero_le _
  | f + 1, c :: L => by
    show (if c = qt then (unq k L).1 :: dmid k f (L.drop ((unq k L).2 - 1)) else (match lsign k.t c with | some a => Ch.g a | none => c) :: dmid k f L).length ≤ f + 1
    split
    · rw [List.length_cons]; exact Nat.succ_le_succ (dmid_len k f _)
    · rw [List.length_cons]; exact Nat.succ_le_succ (dmid_len k f _)
theorem dec_len (k : Tk) (L : List Ch) : (decC k L).length ≤ L.length + 2 := by
  have h1 := dleft_len k L
  have h2 := dright_len k (dleft k L).2
  have h3 := dmid_len k (dright k (dleft k L).2).1.length (dright k (dleft k L).2).1
  have hd : ∀ t, undotC k L = some t → t.length ≤ 2 := by
    intro t ht
    unfold undotC at ht
    split at ht
    · split at ht
      · cases ht; simp
      · split at ht
        · cases ht; simp
        · split at ht
          · cases ht; simp
          · split at ht
            · cases ht; simp
            · cases ht
    · cases ht
  unfold decC
  cases hu : undotC k L with
  | some t => exact Nat.le_trans (hd t hu) (by omega)
  | none =>
    dsimp only
    rw [List.length_append, List.length_append]
    omega
theorem decN_size (m : Int) (s : ByteArray) : (decN m s).size ≤ 4 * s.size + 8 := by
  unfold decN
  split
  · omega
  · have h1 := dec_len (tkm m) (chars (tl s))
    have h2 := flat_len (decC (tkm m) (chars (tl s)))
    have h3 := chars_len (tl s)
    have h4 := tl_size s
    have h5 : (strB (flat (decC (tkm m) (chars (tl s))))).size = _ := Sy.size_strB _
    omega
theorem na43 (m : Int) (w : World) : (nilAhead 264 43 (.int .u64 m) "Encode").run Tryd.prog w = .ok (some false) w := by kernel_rfl
theorem m43 (m : Int) (w : World) : (method 264 43 (.int .u64 m) "Encode").run Tryd.prog w = .ok (35, .int .u64 m) w := by kernel_rfl
/-- The name from Standard's writing. -/
def fromN (m : Int) (s : ByteArray) : ByteArray := if m = 33652738 then s else encN m (decN 33652738 s)
set_option maxHeartbeats 2000000 in
set_option maxRecDepth 100000 in
theorem from23 (m : Int) (s : ByteArray) (w : World) (hs : s.size ≤ 100000000) :
    Calls Tryd.prog 23 #[.int .u64 m, .string s] w fun e w' => e = .returned (.string (fromN m s)) ∧ Below w.heap.size w w' := by
  have c25 := fun W => dec25 33652738 s W (by omega)
  have c17 := fun W => enc17 m (decN 33652738 s) W (by have := decN_size 33652738 s; omega)
  by_cases hm : m = 33652738
  · have e : fromN m s = s := by unfold fromN; rw [if_pos hm]
    rw [e]
    subst hm
    clear c25 c17
    go_enter Tryd.func23, Tryd.ntmps23
    go_wp2
    go_ret
    exact ⟨rfl, Below.refl _ _⟩
  · have e : fromN m s = encN m (decN 33652738 s) := by unfold fromN; rw [if_neg hm]
    have hm1 : (m == 33652738) = false := by rw [beq_eq_false_iff_ne]; exact hm
    rw [e]
    obtain ⟨t, ht⟩ : ∃ t, decN 33652738 s = t := ⟨_, rfl⟩
    rw [ht] at c25 c17 ⊢
    obtain ⟨u, hu⟩ : ∃ u, encN m t = u := ⟨_, rfl⟩
    rw [hu] at c17 ⊢
    clear ht hu e
    go_enter Tryd.func23, Tryd.ntmps23
    go_wp2_with (first | (go_at_call 25; refine (c25 _).mono ?_; rintro e w1 ⟨rfl, h1⟩; clear c25) | (go_at_call 17; refine (c17 _).mono ?_; rintro e w2 ⟨rfl, h2⟩; clear c17))
    go_ret
    exact ⟨rfl, h1.trans (h2.mono h1.size)⟩
set_option maxHeartbeats 2000000 in
set_option maxRecDepth 100000 in
theorem from49 (m : Int) (s : ByteArray) (w : World) (hs : s.size ≤ 100000000) (hW : Wo w) :
    Calls Tryd.prog 49 #[.iface 43 (.int .u64 m), .string s] w fun e w' => e = .returned (.string (fromN m s)) ∧ Below w.heap.size w w' := by
  by_cases hm : m = 33652738
  · have e : fromN m s = s := by unfold fromN; rw [if_pos hm]
    rw [e]
    subst hm
    have heq := fun (W : World) => Lib.run_eql_iface_int (P := Tryd.prog) W (t := 58) (tx := 43) (k := .u64) 33652738 33652738 Tryd.underlying58 (by kernel_rfl) Tryd.underlying43
    rw [show ((33652738 : Int) == 33652738) = true from rfl] at heq
    go_enter Tryd.func49, Tryd.ntmps49
    go_wp2
    go_ret
    exact ⟨rfl, Below.refl _ _⟩
  · have e : fromN m s = encN m (decN 33652738 s) := by unfold fromN; rw [if_neg hm]
    have hm1 : (m == 33652738) = false := by rw [beq_eq_false_iff_ne]; exact hm
    rw [e]
    have heq := fun (W : World) => Lib.run_eql_iface_int (P := Tryd.prog) W (t := 58) (tx := 43) (k := .u64) m 33652738 Tryd.underlying58 (by kernel_rfl) Tryd.underlying43
    rw [hm1] at heq
    have c44 := fun W (h : Wo W) => Sy.calls44 33652738 s W (by omega) h.tabs h.err
    have c35 := fun W (h : Wo W) => Sy.calls35 m (decN 33652738 s) W (by have := decN_size 33652738 s; omega) h.tabs
    rw [decO_is] at c44
    rw [encO_is] at c35
    obtain ⟨t, ht⟩ : ∃ t, decN 33652738 s = t := ⟨_, rfl⟩
    rw [ht] at c44 c35 ⊢
    obtain ⟨u, hu⟩ : ∃ u, encN m t = u := ⟨_, rfl⟩
    rw [hu] at c35 ⊢
    have hna := na43 m
    have hmm := m43 m
    have hd1 : Below w.heap.size w w.drew := below_drewN' (Below.refl _ _) 1
    have hWd : Wo w.drew := hW.below hd1
    clear ht hu e hm
    go_enter Tryd.func49, Tryd.ntmps49
    go_upto_region 3 with fail
    refine wp_region_noPanic ?_
    refine wp_region_held_drew (S := (fun _ => True)) (by kernel_rfl) ?h1 (fun hHeld => ?k1)
    case h1 => ((try dsimp only); all_goals trivial)
    refine wpAnyH_take (i := 0) (oi := { dst := some 9, op := Go.Op.move (Go.Operand.tmp 0), type := 58, pos := "encoder.go:1315", after := #[], guard := none }) (v := ?v2) rfl (by kernel_rfl) (by kernel_rfl) (by kernel_rfl) (fun _ _ _ h => h) (Or.inl ⟨by rfl, ?y2⟩) (by assumption) ?r2
    case y2 => (intro w hSw; (try dsimp only at hSw); first | (go_simp; done) | (go_simp; with_reducible rfl))
    try simp only [Act.put, List.setIfInBounds_toArray, List.set_cons_zero, List.set_cons_succ]
    refine wpAnyH_take (i := 1) (oi := { dst := some 10, op := Go.Op.move (Go.Operand.tmp 1), type := 9, pos := "encoder.go:1315", after := #[], guard := none }) (v := ?v3) rfl (by kernel_rfl) (by kernel_rfl) (by kernel_rfl) (fun _ _ _ h => h) (Or.inl ⟨by rfl, ?y3⟩) (by assumption) ?r3
    case y3 => (intro w hSw; (try dsimp only at hSw); first | (go_simp; done) | (go_simp; with_reducible rfl))
    try simp only [Act.put, List.setIfInBounds_toArray, List.set_cons_zero, List.set_cons_succ]
    refine wpAnyH_take (i := 3) (oi := { dst := some 12, op := Go.Op.makeFunc (Go.Fn.method "Encode") #[Go.Operand.tmp 9] #[], type := 38, pos := "encoder.go:1315", after := #[{ on := 0, ground := Go.Ground.data }], guard := none }) (v := ?v4) rfl (by kernel_rfl) (by kernel_rfl) (by kernel_rfl) (fun _ _ _ h => h) (Or.inl ⟨by rfl, ?y4⟩) (by assumption) ?r4
    case y4 => (intro w hSw; (try dsimp only at hSw); first | (go_simp; done) | (go_simp; with_reducible rfl))
    try simp only [Act.put, List.setIfInBounds_toArray, List.set_cons_zero, List.set_cons_succ]
    refine wpAnyH_take (i := 4) (oi := { dst := some 13, op := Go.Op.nilCheck (Go.Operand.tmp 12), type := 38, pos := "encoder.go:1315", after := #[{ on := 3, ground := Go.Ground.data }], guard := none }) (v := ?v5) rfl (by kernel_rfl) (by kernel_rfl) (by kernel_rfl) (fun _ _ _ h => h) (Or.inl ⟨by rfl, ?y5⟩) (by assumption) ?r5
    case y5 => (intro w hSw; (try dsimp only at hSw); first | (go_simp; done) | (go_simp; with_reducible rfl))
    try simp only [Act.put, List.setIfInBounds_toArray, List.set_cons_zero, List.set_cons_succ]
    refine wpAnyH_take (i := 5) (oi := { dst := some 14, op := Go.Op.move (Go.Operand.tmp 9), type := 58, pos := "encoder.go:1315", after := #[{ on := 0, ground := Go.Ground.data }, { on := 3, ground := Go.Ground.data }, { on := 4, ground := Go.Ground.data }], guard := none }) (v := ?v6) rfl (by kernel_rfl) (by kernel_rfl) (by kernel_rfl) (fun _ _ _ h => h) (Or.inl ⟨by rfl, ?y6⟩) (by assumption) ?r6
    case y6 => (intro w hSw; (try dsimp only at hSw); first | (go_simp; done) | (go_simp; with_reducible rfl))
    try simp only [Act.put, List.setIfInBounds_toArray, List.set_cons_zero, List.set_cons_succ]
    refine wpAnyH_ready (rs := [2]) (by kernel_rfl) (by simp) ?_
    refine AllReadyH.cons (o := { dst := some 11, op := Go.Op.call { callee := Go.Callee.value (Go.Operand.func 44), args := #[Go.Operand.const (Go.Value.int Go.IntKind.u64 33652738), Go.Operand.tmp 10], argTypes := #[43, 9] }, type := 9, pos := "encoder.go:1315", after := #[{ on := 1, ground := Go.Ground.data }], guard := none }) rfl (fun K hK => ?s7) ?m7
    case m7 => exact AllReadyH.nil
    go_simp; go_at_call 44; refine (c44 _ hWd).mono ?_; rintro e w1 ⟨rfl, h1⟩; have g1 := hWd.below h1
    refine hK.out _ _ ?h7 (fun hHeld => ?k7)
    case h7 => ((try dsimp only); all_goals trivial)
    clear hK K
    try simp only [Act.put, List.setIfInBounds_toArray, List.set_cons_zero, List.set_cons_succ]
    refine wpAnyH_ready (rs := [6]) (by kernel_rfl) (by simp) ?_
    refine AllReadyH.cons (o := { dst := some 15, op := Go.Op.call { callee := Go.Callee.invoke (Go.Operand.tmp 14) "Encode", args := #[Go.Operand.tmp 11], argTypes := #[9] }, type := 9, pos := "encoder.go:1315", after := #[{ on := 5, ground := Go.Ground.data }, { on := 2, ground := Go.Ground.data }, { on := 2, ground := Go.Ground.chain }], guard := none }) rfl (fun K hK => ?s8) ?m8
    case m8 => exact AllReadyH.nil
    go_simp; go_at_call 35; refine (c35 _ g1).mono ?_; rintro e w2 ⟨rfl, h2⟩
    refine hK.out _ _ ?h8 (fun hHeld => ?k8)
    case h8 => ((try dsimp only); all_goals trivial)
    clear hK K
    try simp only [Act.put, List.setIfInBounds_toArray, List.set_cons_zero, List.set_cons_succ]
    refine wpAnyH_take (i := 7) (oi := { dst := some 4, op := Go.Op.assign (Go.Operand.tmp 15), type := 9, pos := "encoder.go:1315", after := #[{ on := 6, ground := Go.Ground.data }, { on := 6, ground := Go.Ground.chain }, { on := 0, ground := Go.Ground.phase }, { on := 1, ground := Go.Ground.phase }, { on := 2, ground := Go.Ground.phase }, { on := 3, ground := Go.Ground.phase }, { on := 4, ground := Go.Ground.phase }, { on := 5, ground := Go.Ground.phase }, { on := 6, ground := Go.Ground.phase }], guard := none }) (v := ?v9) rfl (by kernel_rfl) (by kernel_rfl) (by kernel_rfl) (fun _ _ _ h => h) (Or.inl ⟨by rfl, ?y9⟩) (by assumption) ?r9
    case y9 => (intro w hSw; (try dsimp only at hSw); first | (go_simp; done) | (go_simp; with_reducible rfl))
    try simp only [Act.put, List.setIfInBounds_toArray, List.set_cons_zero, List.set_cons_succ]
    refine wpAnyH_done (by kernel_rfl) ?_ _
    refine NoPanic.normal ?_
    go_wp2
    go_ret
    have k1 := hd1.trans (h1.mono hd1.size)
    exact ⟨rfl, k1.trans (h2.mono k1.size)⟩
set_option maxHeartbeats 2000000 in
set_option maxRecDepth 100000 in
theorem from47 (m : Int) (s : ByteArray) (w : World) (hs : s.size ≤ 100000000) (hW : Wo w) :
    Calls Tryd.prog 47 #[.int .u64 m, .string s] w fun e w' => e = .returned (.string (fromN m s)) ∧ Below w.heap.size w w' := by
  have c := from49 m s w hs hW
  obtain ⟨t, ht⟩ : ∃ t, fromN m s = t := ⟨_, rfl⟩
  rw [ht] at c ⊢
  clear ht
  go_enter Tryd.func47, Tryd.ntmps47
  go_wp2_with (go_at_call 49; refine c.mono ?_; rintro e w1 ⟨rfl, h1⟩)
  go_ret
  exact ⟨rfl, h1⟩
set_option maxHeartbeats 2000000 in
set_option maxRecDepth 100000 in
theorem from22 (m : Int) (s : ByteArray) (w : World) (hs : s.size ≤ 100000000) (hW : Wo w) :
    Calls Tryd.prog 22 #[.int .u64 m, .string s] w fun e w' => e = .returned (.string (fromN m s)) ∧ Below w.heap.size w w' := by
  have c := from47 m s w hs hW
  obtain ⟨t, ht⟩ : ∃ t, fromN m s = t := ⟨_, rfl⟩
  rw [ht] at c ⊢
  clear ht
  go_enter Tryd.func22, Tryd.ntmps22
  go_wp2_with (go_at_call 47; refine c.mono ?_; rintro e w1 ⟨rfl, h1⟩)
  go_ret
  exact ⟨rfl, h1⟩
set_option maxRecDepth 100000 in
theorem colon_from : fromN 128 ⟨#[58]⟩ = ⟨#[239, 188, 154]⟩ := by decide +kernel
set_option maxHeartbeats 2000000 in
set_option maxRecDepth 100000 in
theorem law9 (m : Int) (s : ByteArray) (w : World) (hW : Wo w) : Calls Tryd.prog 9 #[.int .u64 m, .string s] w fun e w' => e = .returned (.bool true) ∧ Below w.heap.size w w' := by
  by_cases hs : s.size ≤ 2147483647
  · have hs1 : ((s.size : Int) > 2147483647) = False := by simp; omega
    have c16 := fun w => short_cell s w hs
    obtain ⟨b, hb⟩ : ∃ b, decide ((s.size : Int) ≤ 65536) = b := ⟨_, rfl⟩
    rw [hb] at c16
    cases b with
    | false =>
      clear hb hs
      go_enter Tryd.func9, Tryd.ntmps9
      go_wp2_with (go_at_call 16; refine (c16 _).mono ?_; rintro e w1 ⟨rfl, h1⟩; clear c16)
      go_ret
      exact ⟨rfl, h1⟩
    | true =>
      have hsz : (s.size : Int) ≤ 65536 := of_decide_eq_true hb
      have c22 := fun W (h : Wo W) => from22 m s W (by omega) h
      have c23 := fun W => from23 m s W (by omega)
      have d22 := fun W (h : Wo W) => from22 128 ⟨#[58]⟩ W (by decide) h
      rw [colon_from] at d22
      obtain ⟨t, ht⟩ : ∃ t, fromN m s = t := ⟨_, rfl⟩
      rw [ht] at c22 c23
      clear hb hs hsz ht
      go_enter Tryd.func9, Tryd.ntmps9
      go_wp2_with (first | (go_at_call 16; refine (c16 _).mono ?_; rintro e w1 ⟨rfl, h1⟩; have g1 := hW.below h1; clear c16) | (go_at_call 22; refine (c22 _ g1).mono ?_; rintro e w2 ⟨rfl, h2⟩; have g2 := g1.below h2; clear c22) | (go_at_call 23; refine (c23 _).mono ?_; rintro e w3 ⟨rfl, h3⟩; have g3 := g2.below h3; clear c23) | (go_at_call 22; refine (d22 _ g3).mono ?_; rintro e w4 ⟨rfl, h4⟩; clear d22))
      go_ret
      have k2 := h1.trans (h2.mono h1.size)
      have k3 := k2.trans (h3.mono k2.size)
      exact ⟨rfl, k3.trans (h4.mono k3.size)⟩
  · have hs1 : ((s.size : Int) > 2147483647) = True := by simp; omega
    go_enter Tryd.func9, Tryd.ntmps9
    go_wp2
    go_ret
    exact ⟨rfl, Below.refl _ w⟩
end Go.Proofs.YtonmnpmklkbioaaDoor.Given
