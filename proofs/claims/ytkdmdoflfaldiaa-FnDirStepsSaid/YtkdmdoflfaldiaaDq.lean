/- The contracts of spec.Dirs.Step's other arms: what a path and an ID tell, the root alone, nothing at all, and what is left when a path is flushed. Up to 900,000 pairs. -/
import Derived.Test.YtkdmdoflfaldiaaDp
namespace Go.Proofs.Ytkdmdoflfaldiaa.Given
open Go.RowKit Go.WideMaps Go.Maps Go.Proofs.YtkdmdoflfaldiaaW.PrintWords Go.Proofs.Ytkdmdoflfaldiaa.PD Go.Proofs.Ytkdmdoflfaldiaa.Pl
set_option linter.unusedVariables false
set_option linter.unusedSimpArgs false

/-- The world behind the two blocks that Step makes first. -/
structure St0 (w W : World) (S B base : Nat) (dv : Int) (a b : ByteArray) (v1 v2 : Value) (lp lb : List S31) : Prop where
  hs : w.heap.size = S
  lB : B < S
  hb : base ≤ S
  q2 : W.heap[S]? = some (.cells #[.int .i64 dv, .string a, .string b] 34 (0, 0))
  q3 : W.heap[S + 1]? = some (.cells #[.string ⟨#[]⟩, .bool false] 40 (0, 0))
  sz : W.heap.size = S + 2
  bl2 : Keep (fun k => k ≠ B) w W
  g1 : DirsB W B base v1 v2 lp lb
theorem st0 (w : World) (B base : Nat) (v1 v2 : Value) (lp lb : List S31) (dv : Int) (a b : ByteArray) (h : DirsB w B base v1 v2 lp lb) (hbase : base ≤ w.heap.size) :
    St0 w ((w.alloc (.cells #[.int .i64 dv, .string a, .string b] 34)).alloc (.cells #[.string ⟨#[]⟩, .bool false] 40)) w.heap.size B base dv a b v1 v2 lp lb := by
  have lB := ltH h.hB
  have q1 := (MapKept.heap_alloc w (.cells #[.int .i64 dv, .string a, .string b] 34)).1
  have z1 : (w.alloc (.cells #[.int .i64 dv, .string a, .string b] 34)).heap.size = w.heap.size + 1 := by simp
  have q2 := (Below.heap_alloc (w.alloc (.cells #[.int .i64 dv, .string a, .string b] 34)) (.cells #[.string ⟨#[]⟩, .bool false] 40) w.heap.size (by simp)).trans q1
  have q3 := (MapKept.heap_alloc (w.alloc (.cells #[.int .i64 dv, .string a, .string b] 34)) (.cells #[.string ⟨#[]⟩, .bool false] 40)).1
  have bl2 : Below w.heap.size w ((w.alloc (.cells #[.int .i64 dv, .string a, .string b] 34)).alloc (.cells #[.string ⟨#[]⟩, .bool false] 40)) := ((Below.refl _ _).alloc (Nat.le_refl _) _).alloc (by simp) _
  rw [z1] at q3
  exact ⟨rfl, lB, hbase, q2, q3, by simp, Keep.ofBelow bl2 (fun k hk _ => hk), h.below bl2⟩


def flS (a : ByteArray) : List S31 → List S31 → List S31 → List S31 × List S31
  | [], lp, lb => (lp, lb)
  | p :: r, lp, lb => if bl p.f0 a = true then flS a r (wo lp p.f0) (wo lb p.f1) else flS a r lp lb
theorem keepS_trans {S : Nat → Prop} {a b c : World} (h : Keep S a b) (k : Keep S b c) : Keep S a c := h.trans k
theorem mk_new {W : World} {B base : Nat} {v1 v2 : Value} {lp lb : List S31} (h : DirsB W B base v1 v2 lp lb) (hbase : base ≤ W.heap.size) (x y : S31) :
    DirsB (((((W.alloc (.cells #[.string x.f0, .string x.f1] 31)).alloc (.cells #[.string y.f0, .string y.f1] 31))).setCell ⟨B, 0, none⟩ (.slice (some ⟨W.heap.size, 0, none⟩) 1 1)).setCell ⟨B, 1, none⟩ (.slice (some ⟨W.heap.size + 1, 0, none⟩) 1 1)) B base (.slice (some ⟨W.heap.size, 0, none⟩) 1 1) (.slice (some ⟨W.heap.size + 1, 0, none⟩) 1 1) [x] [y] ∧
      Keep (fun k => k ≠ B) W (((((W.alloc (.cells #[.string x.f0, .string x.f1] 31)).alloc (.cells #[.string y.f0, .string y.f1] 31))).setCell ⟨B, 0, none⟩ (.slice (some ⟨W.heap.size, 0, none⟩) 1 1)).setCell ⟨B, 1, none⟩ (.slice (some ⟨W.heap.size + 1, 0, none⟩) 1 1)) := by
  have lB := ltH h.hB
  have z1 : (W.alloc (.cells #[.string x.f0, .string x.f1] 31)).heap.size = W.heap.size + 1 := by simp
  have r0 := (MapKept.heap_alloc W (.cells #[.string x.f0, .string x.f1] 31)).1
  have r1 := (Below.heap_alloc (W.alloc (.cells #[.string x.f0, .string x.f1] 31)) (.cells #[.string y.f0, .string y.f1] 31) W.heap.size (by simp)).trans r0
  have r2 := (MapKept.heap_alloc (W.alloc (.cells #[.string x.f0, .string x.f1] 31)) (.cells #[.string y.f0, .string y.f1] 31)).1
  rw [z1] at r2
  have bl2 : Below W.heap.size W ((W.alloc (.cells #[.string x.f0, .string x.f1] 31)).alloc (.cells #[.string y.f0, .string y.f1] 31)) := ((Below.refl _ _).alloc (Nat.le_refl _) _).alloc (by simp) _
  obtain ⟨V, hV⟩ : ∃ V, (W.alloc (.cells #[.string x.f0, .string x.f1] 31)).alloc (.cells #[.string y.f0, .string y.f1] 31) = V := ⟨_, rfl⟩
  rw [hV] at r1 r2 bl2 ⊢
  have hB := (bl2.block B lB).trans h.hB
  have b1 := setH hB 0 (.slice (some ⟨W.heap.size, 0, none⟩) 1 1) (by simp)
  have b2 := setH b1 1 (.slice (some ⟨W.heap.size + 1, 0, none⟩) 1 1) (by simp)
  have sc : ∀ k, k ≠ B → ((V.setCell ⟨B, 0, none⟩ (.slice (some ⟨W.heap.size, 0, none⟩) 1 1)).setCell ⟨B, 1, none⟩ (.slice (some ⟨W.heap.size + 1, 0, none⟩) 1 1)).heap[k]? = V.heap[k]? := fun k hk => (Below.heap_setCell _ _ _ k hk).trans (Below.heap_setCell _ _ _ k hk)
  refine ⟨⟨b2, ?_, ?_⟩, (Keep.ofBelow bl2 (fun k hk _ => hk)).trans ((Keep.setCell _ _ _ (fun k => k rfl)).trans (Keep.setCell _ _ _ (fun k => k rfl)))⟩
  · exact ⟨by simp [flat31, cells31], .inr ⟨W.heap.size, 1, _, rfl, hbase, (sc _ (by omega)).trans r1, Nat.le_refl _, by unfold maxLen; omega, by simp, by simp [flat31, cells31]⟩⟩
  · exact ⟨by simp [flat31, cells31], .inr ⟨W.heap.size + 1, 1, _, rfl, by omega, (sc _ (by omega)).trans r2, Nat.le_refl _, by unfold maxLen; omega, by simp, by simp [flat31, cells31]⟩⟩
theorem mk_nil {W : World} {B base : Nat} {v1 v2 : Value} {lp lb : List S31} (h : DirsB W B base v1 v2 lp lb) :
    DirsB ((W.setCell ⟨B, 0, none⟩ (.slice none 0 0)).setCell ⟨B, 1, none⟩ (.slice none 0 0)) B base (.slice none 0 0) (.slice none 0 0) [] [] ∧ Keep (fun k => k ≠ B) W ((W.setCell ⟨B, 0, none⟩ (.slice none 0 0)).setCell ⟨B, 1, none⟩ (.slice none 0 0)) :=
  ⟨⟨setH (setH h.hB 0 _ (by simp)) 1 _ (by simp), own_nil _ _ _ _, own_nil _ _ _ _⟩, (Keep.setCell _ _ _ (fun k => k rfl)).trans (Keep.setCell _ _ _ (fun k => k rfl))⟩

set_option maxHeartbeats 4000000 in
set_option maxRecDepth 100000 in
theorem dirs_get (w : World) (B base : Nat) (v1 v2 : Value) (lp lb : List S31) (a b id : ByteArray) (h : DirsB w B base v1 v2 lp lb) (hbase : base ≤ w.heap.size) (h1 : lp.length ≤ 900000) (h2 : lb.length ≤ 900000) :
    Calls Try.prog 13 #[.pointer (some ⟨B, 0, none⟩), .agg #[.int .i64 1, .string a, .string b], .string id] w fun e w' => e = .returned (.agg #[.string ((fd lp a).getD ⟨#[]⟩), .bool (fd lp a).isSome]) ∧
      ∃ v1' v2', DirsB w' B base v1' v2' lp lb ∧ Keep (fun k => k ≠ B) w w' := by
  have H := st0 w B base v1 v2 lp lb 1 a b h hbase
  have s0 := cellH H.q2 0 (.int .i64 1) rfl
  have s1 := cellH H.q2 1 (.string a) rfl
  have s2 := cellH H.q2 2 (.string b) rfl
  have e0 : ((1 : Int) == 0) = false := rfl
  have e1 : ((1 : Int) == 1) = true := rfl
  clear h hbase
  go_enter Try.func13, Try.ntmps13
  go_upto_region 6 with fail
  obtain ⟨W, hW⟩ : ∃ W, ((w.alloc (.cells #[.int .i64 1, .string a, .string b] 34)).alloc (.cells #[.string ⟨#[]⟩, .bool false] 40)) = W := ⟨_, rfl⟩
  obtain ⟨S, hS⟩ : ∃ S, w.heap.size = S := ⟨_, rfl⟩
  rw [hW, hS] at H s0 s1 s2
  rw [hW, hS]
  clear hW
  have sz := H.sz
  have lB := H.lB
  have hb := H.hb
  obtain ⟨A1, c1, ee1⟩ := own_slice H.g1.o1
  subst ee1
  have c0 := cellH H.g1.hB 0 (.slice A1 lp.length c1) rfl
  have h9 : lp.length ≤ 1000000 := by omega
  have o1d : Hid (W.drew.ownsRow base 31 2 (.slice A1 lp.length c1) lp.length (flat31 lp)) := Lib.hid H.g1.o1.drew
  have bd : Hid (Below W.heap.size W W.drew) := Lib.hid (below_drew1 (Below.refl _ _))
  refine wp_region_noPanic ?_
  refine wp_region_held_drew (S := (fun w' => w'.cell? ⟨S, 1, none⟩ = some (.string a) ∧ w'.cell? ⟨S, 2, none⟩ = some (.string b))) (by kernel_rfl) ?h1 (fun hHeld => ?k1)
  case h1 => ((try dsimp only); (first | go_keep | (refine ⟨?_, ?_⟩ <;> first | assumption | go_keep)))
  refine wpAnyH_take (i := 0) (oi := { dst := some 49, op := Go.Op.move (Go.Operand.tmp 0), type := 50, pos := "paths.go:148", after := #[], guard := none }) (v := ?v2) rfl (by kernel_rfl) (by kernel_rfl) (by kernel_rfl) (fun _ _ _ h => h) (Or.inl ⟨by rfl, ?y2⟩) (by assumption) ?r2
  case y2 => (intro w hSw; (try dsimp only at hSw); first | (go_simp; done) | (go_simp; with_reducible rfl))
  try simp only [Act.put, List.setIfInBounds_toArray, List.set_cons_zero, List.set_cons_succ]
  refine wpAnyH_take (i := 1) (oi := { dst := some 50, op := Go.Op.nilCheck (Go.Operand.tmp 49), type := 0, pos := "paths.go:148", after := #[{ on := 0, ground := Go.Ground.data }], guard := none }) (v := ?v3) rfl (by kernel_rfl) (by kernel_rfl) (by kernel_rfl) (fun _ _ _ h => h) (Or.inl ⟨by rfl, ?y3⟩) (by assumption) ?r3
  case y3 => (intro w hSw; (try dsimp only at hSw); first | (go_simp; done) | (go_simp; with_reducible rfl))
  try simp only [Act.put, List.setIfInBounds_toArray, List.set_cons_zero, List.set_cons_succ]
  refine wpAnyH_take (i := 2) (oi := { dst := some 51, op := Go.Op.fieldAddr 38 (Go.Operand.tmp 50) 0, type := 0, pos := "paths.go:148", after := #[{ on := 1, ground := Go.Ground.data }], guard := none }) (v := ?v4) rfl (by kernel_rfl) (by kernel_rfl) (by kernel_rfl) (fun _ _ _ h => h) (Or.inl ⟨by rfl, ?y4⟩) (by assumption) ?r4
  case y4 => (intro w hSw; (try dsimp only at hSw); first | (go_simp; done) | (go_simp; with_reducible rfl))
  try simp only [Act.put, List.setIfInBounds_toArray, List.set_cons_zero, List.set_cons_succ]
  refine wpAnyH_take (i := 4) (oi := { dst := some 53, op := Go.Op.fieldAddr 34 (Go.Operand.tmp 4) 1, type := 0, pos := "paths.go:148", after := #[], guard := none }) (v := ?v5) rfl (by kernel_rfl) (by kernel_rfl) (by kernel_rfl) (fun _ _ _ h => h) (Or.inl ⟨by rfl, ?y5⟩) (by assumption) ?r5
  case y5 => (intro w hSw; (try dsimp only at hSw); first | (go_simp; done) | (go_simp; with_reducible rfl))
  try simp only [Act.put, List.setIfInBounds_toArray, List.set_cons_zero, List.set_cons_succ]
  refine wpAnyH_take (i := 5) (oi := { dst := some 54, op := Go.Op.load 9 (Go.Operand.tmp 53), type := 9, pos := "paths.go:148", after := #[{ on := 4, ground := Go.Ground.data }], guard := none }) (v := ?v6) rfl (by kernel_rfl) (by kernel_rfl) (by kernel_rfl) (fun _ _ _ h => h) (Or.inl ⟨by rfl, ?y6⟩) (by assumption) ?r6
  case y6 => (intro w hSw; (try dsimp only at hSw); first | (go_simp; done) | (go_simp; with_reducible rfl))
  try simp only [Act.put, List.setIfInBounds_toArray, List.set_cons_zero, List.set_cons_succ]
  refine wpAnyH_ready (rs := [3]) (by kernel_rfl) (by simp) ?_
  refine AllReadyH.cons (o := { dst := some 52, op := Go.Op.load 32 (Go.Operand.tmp 51), type := 32, pos := "paths.go:148", after := #[{ on := 2, ground := Go.Ground.data }], guard := none }) rfl (fun K hK => ?s7) ?m7
  case m7 => exact AllReadyH.nil
  go_simp
  refine hK.out _ _ ?h7 (fun hHeld => ?k7)
  case h7 => ((try dsimp only); (first | go_keep | (refine ⟨?_, ?_⟩ <;> first | assumption | go_keep)))
  clear hK K
  try simp only [Act.put, List.setIfInBounds_toArray, List.set_cons_zero, List.set_cons_succ]
  refine wpAnyH_ready (rs := [6]) (by kernel_rfl) (by simp) ?_
  refine AllReadyH.cons (o := { dst := some 55, op := Go.Op.call { callee := Go.Callee.value (Go.Operand.func 27), args := #[Go.Operand.tmp 52, Go.Operand.tmp 54], argTypes := #[32, 9] }, type := 40, pos := "paths.go:148", after := #[{ on := 3, ground := Go.Ground.data }, { on := 5, ground := Go.Ground.data }], guard := none }) rfl (fun K hK => ?s8) ?m8
  case m8 => exact AllReadyH.nil
  go_simp; go_at_call 27; refine (fd_any _ base A1 lp.length c1 lp a rfl ?own h9).mono ?_; (case own => with_reducible exact o1d.out); rintro e w5 ⟨rfl, hb5⟩; have b5 : Below W.heap.size W w5 := bd.out.trans (hb5.mono bd.out.size); have h5A := (b5.block (S + 1) (by omega)).trans H.q3; have k51 := cellH ((b5.block S (by omega)).trans H.q2) 1 (.string a) rfl; have k52 := cellH ((b5.block S (by omega)).trans H.q2) 2 (.string b) rfl; have a0 := cellH h5A 0 (.string ⟨#[]⟩) rfl; have a1 := cellH h5A 1 (.bool false) rfl; have u0 := frozenH h5A 0; have u1 := frozenH h5A 1
  refine hK.out _ _ ?h8 (fun hHeld => ?k8)
  case h8 => ((try dsimp only); (first | go_keep | (refine ⟨?_, ?_⟩ <;> first | assumption | go_keep)))
  clear hK K
  try simp only [Act.put, List.setIfInBounds_toArray, List.set_cons_zero, List.set_cons_succ]
  refine wpAnyH_ready (rs := [7]) (by kernel_rfl) (by simp) ?_
  refine AllReadyH.cons (o := { dst := none, op := Go.Op.store 40 (Go.Operand.tmp 6) (Go.Operand.tmp 55), type := 0, pos := "paths.go:148", after := #[{ on := 6, ground := Go.Ground.data }, { on := 6, ground := Go.Ground.chain }, { on := 0, ground := Go.Ground.phase }, { on := 1, ground := Go.Ground.phase }, { on := 2, ground := Go.Ground.phase }, { on := 3, ground := Go.Ground.phase }, { on := 4, ground := Go.Ground.phase }, { on := 5, ground := Go.Ground.phase }, { on := 6, ground := Go.Ground.phase }], guard := none }) rfl (fun K hK => ?s9) ?m9
  case m9 => exact AllReadyH.nil
  go_simp
  refine hK.out _ _ ?h9 (fun hHeld => ?k9)
  case h9 => ((try dsimp only); (first | go_keep | (refine ⟨?_, ?_⟩ <;> first | assumption | go_keep)))
  clear hK K
  try simp only [Act.put, List.setIfInBounds_toArray, List.set_cons_zero, List.set_cons_succ]
  refine wpAnyH_done (by kernel_rfl) ?_ _
  refine NoPanic.normal ?_
  obtain ⟨p1, p2, p3⟩ := ans_set (.string ((fd lp a).getD ⟨#[]⟩)) (.bool (fd lp a).isSome) (H.g1.below b5) h5A (H.bl2.trans (Keep.ofBelow b5 (fun k hk _ => hk))) hS
  go_wp2_with fail
  refine bodyPost_ret (res13 (p := S + 1) rfl (cellH p1 0 _ rfl) (cellH p1 1 _ rfl)) rfl ?_
  exact ⟨rfl, _, _, p2, p3⟩

set_option maxHeartbeats 4000000 in
set_option maxRecDepth 100000 in
theorem dirs_inv (w : World) (B base : Nat) (v1 v2 : Value) (lp lb : List S31) (a b id : ByteArray) (h : DirsB w B base v1 v2 lp lb) (hbase : base ≤ w.heap.size) (h1 : lp.length ≤ 900000) (h2 : lb.length ≤ 900000) :
    Calls Try.prog 13 #[.pointer (some ⟨B, 0, none⟩), .agg #[.int .i64 2, .string a, .string b], .string id] w fun e w' => e = .returned (.agg #[.string ((fd lb b).getD ⟨#[]⟩), .bool (fd lb b).isSome]) ∧
      ∃ v1' v2', DirsB w' B base v1' v2' lp lb ∧ Keep (fun k => k ≠ B) w w' := by
  have H := st0 w B base v1 v2 lp lb 2 a b h hbase
  have s0 := cellH H.q2 0 (.int .i64 2) rfl
  have s1 := cellH H.q2 1 (.string a) rfl
  have s2 := cellH H.q2 2 (.string b) rfl
  have e0 : ((2 : Int) == 0) = false := rfl
  have e1 : ((2 : Int) == 1) = false := rfl
  have e2 : ((2 : Int) == 2) = true := rfl
  clear h hbase
  go_enter Try.func13, Try.ntmps13
  go_upto_region 8 with fail
  obtain ⟨W, hW⟩ : ∃ W, ((w.alloc (.cells #[.int .i64 2, .string a, .string b] 34)).alloc (.cells #[.string ⟨#[]⟩, .bool false] 40)) = W := ⟨_, rfl⟩
  obtain ⟨S, hS⟩ : ∃ S, w.heap.size = S := ⟨_, rfl⟩
  rw [hW, hS] at H s0 s1 s2
  rw [hW, hS]
  clear hW
  have sz := H.sz
  have lB := H.lB
  have hb := H.hb
  obtain ⟨A1, c1, ee1⟩ := own_slice H.g1.o2
  subst ee1
  have c0 := cellH H.g1.hB 1 (.slice A1 lb.length c1) rfl
  have h9 : lb.length ≤ 1000000 := by omega
  have o1d : Hid (W.drew.ownsRow base 31 2 (.slice A1 lb.length c1) lb.length (flat31 lb)) := Lib.hid H.g1.o2.drew
  have bd : Hid (Below W.heap.size W W.drew) := Lib.hid (below_drew1 (Below.refl _ _))
  refine wp_region_noPanic ?_
  refine wp_region_held_drew (S := (fun w' => w'.cell? ⟨S, 1, none⟩ = some (.string a) ∧ w'.cell? ⟨S, 2, none⟩ = some (.string b))) (by kernel_rfl) ?h10 (fun hHeld => ?k10)
  case h10 => ((try dsimp only); (first | go_keep | (refine ⟨?_, ?_⟩ <;> first | assumption | go_keep)))
  refine wpAnyH_take (i := 0) (oi := { dst := some 58, op := Go.Op.move (Go.Operand.tmp 0), type := 50, pos := "paths.go:150", after := #[], guard := none }) (v := ?v11) rfl (by kernel_rfl) (by kernel_rfl) (by kernel_rfl) (fun _ _ _ h => h) (Or.inl ⟨by rfl, ?y11⟩) (by assumption) ?r11
  case y11 => (intro w hSw; (try dsimp only at hSw); first | (go_simp; done) | (go_simp; with_reducible rfl))
  try simp only [Act.put, List.setIfInBounds_toArray, List.set_cons_zero, List.set_cons_succ]
  refine wpAnyH_take (i := 1) (oi := { dst := some 59, op := Go.Op.nilCheck (Go.Operand.tmp 58), type := 0, pos := "paths.go:150", after := #[{ on := 0, ground := Go.Ground.data }], guard := none }) (v := ?v12) rfl (by kernel_rfl) (by kernel_rfl) (by kernel_rfl) (fun _ _ _ h => h) (Or.inl ⟨by rfl, ?y12⟩) (by assumption) ?r12
  case y12 => (intro w hSw; (try dsimp only at hSw); first | (go_simp; done) | (go_simp; with_reducible rfl))
  try simp only [Act.put, List.setIfInBounds_toArray, List.set_cons_zero, List.set_cons_succ]
  refine wpAnyH_take (i := 2) (oi := { dst := some 60, op := Go.Op.fieldAddr 38 (Go.Operand.tmp 59) 1, type := 0, pos := "paths.go:150", after := #[{ on := 1, ground := Go.Ground.data }], guard := none }) (v := ?v13) rfl (by kernel_rfl) (by kernel_rfl) (by kernel_rfl) (fun _ _ _ h => h) (Or.inl ⟨by rfl, ?y13⟩) (by assumption) ?r13
  case y13 => (intro w hSw; (try dsimp only at hSw); first | (go_simp; done) | (go_simp; with_reducible rfl))
  try simp only [Act.put, List.setIfInBounds_toArray, List.set_cons_zero, List.set_cons_succ]
  refine wpAnyH_take (i := 4) (oi := { dst := some 62, op := Go.Op.fieldAddr 34 (Go.Operand.tmp 4) 2, type := 0, pos := "paths.go:150", after := #[], guard := none }) (v := ?v14) rfl (by kernel_rfl) (by kernel_rfl) (by kernel_rfl) (fun _ _ _ h => h) (Or.inl ⟨by rfl, ?y14⟩) (by assumption) ?r14
  case y14 => (intro w hSw; (try dsimp only at hSw); first | (go_simp; done) | (go_simp; with_reducible rfl))
  try simp only [Act.put, List.setIfInBounds_toArray, List.set_cons_zero, List.set_cons_succ]
  refine wpAnyH_take (i := 5) (oi := { dst := some 63, op := Go.Op.load 9 (Go.Operand.tmp 62), type := 9, pos := "paths.go:150", after := #[{ on := 4, ground := Go.Ground.data }], guard := none }) (v := ?v15) rfl (by kernel_rfl) (by kernel_rfl) (by kernel_rfl) (fun _ _ _ h => h) (Or.inl ⟨by rfl, ?y15⟩) (by assumption) ?r15
  case y15 => (intro w hSw; (try dsimp only at hSw); first | (go_simp; done) | (go_simp; with_reducible rfl))
  try simp only [Act.put, List.setIfInBounds_toArray, List.set_cons_zero, List.set_cons_succ]
  refine wpAnyH_ready (rs := [3]) (by kernel_rfl) (by simp) ?_
  refine AllReadyH.cons (o := { dst := some 61, op := Go.Op.load 32 (Go.Operand.tmp 60), type := 32, pos := "paths.go:150", after := #[{ on := 2, ground := Go.Ground.data }], guard := none }) rfl (fun K hK => ?s16) ?m16
  case m16 => exact AllReadyH.nil
  go_simp
  refine hK.out _ _ ?h16 (fun hHeld => ?k16)
  case h16 => ((try dsimp only); (first | go_keep | (refine ⟨?_, ?_⟩ <;> first | assumption | go_keep)))
  clear hK K
  try simp only [Act.put, List.setIfInBounds_toArray, List.set_cons_zero, List.set_cons_succ]
  refine wpAnyH_ready (rs := [6]) (by kernel_rfl) (by simp) ?_
  refine AllReadyH.cons (o := { dst := some 64, op := Go.Op.call { callee := Go.Callee.value (Go.Operand.func 27), args := #[Go.Operand.tmp 61, Go.Operand.tmp 63], argTypes := #[32, 9] }, type := 40, pos := "paths.go:150", after := #[{ on := 3, ground := Go.Ground.data }, { on := 5, ground := Go.Ground.data }], guard := none }) rfl (fun K hK => ?s17) ?m17
  case m17 => exact AllReadyH.nil
  go_simp; go_at_call 27; refine (fd_any _ base A1 lb.length c1 lb b rfl ?own h9).mono ?_; (case own => with_reducible exact o1d.out); rintro e w5 ⟨rfl, hb5⟩; have b5 : Below W.heap.size W w5 := bd.out.trans (hb5.mono bd.out.size); have h5A := (b5.block (S + 1) (by omega)).trans H.q3; have k51 := cellH ((b5.block S (by omega)).trans H.q2) 1 (.string a) rfl; have k52 := cellH ((b5.block S (by omega)).trans H.q2) 2 (.string b) rfl; have a0 := cellH h5A 0 (.string ⟨#[]⟩) rfl; have a1 := cellH h5A 1 (.bool false) rfl; have u0 := frozenH h5A 0; have u1 := frozenH h5A 1
  refine hK.out _ _ ?h17 (fun hHeld => ?k17)
  case h17 => ((try dsimp only); (first | go_keep | (refine ⟨?_, ?_⟩ <;> first | assumption | go_keep)))
  clear hK K
  try simp only [Act.put, List.setIfInBounds_toArray, List.set_cons_zero, List.set_cons_succ]
  refine wpAnyH_ready (rs := [7]) (by kernel_rfl) (by simp) ?_
  refine AllReadyH.cons (o := { dst := none, op := Go.Op.store 40 (Go.Operand.tmp 6) (Go.Operand.tmp 64), type := 0, pos := "paths.go:150", after := #[{ on := 6, ground := Go.Ground.data }, { on := 6, ground := Go.Ground.chain }, { on := 0, ground := Go.Ground.phase }, { on := 1, ground := Go.Ground.phase }, { on := 2, ground := Go.Ground.phase }, { on := 3, ground := Go.Ground.phase }, { on := 4, ground := Go.Ground.phase }, { on := 5, ground := Go.Ground.phase }, { on := 6, ground := Go.Ground.phase }], guard := none }) rfl (fun K hK => ?s18) ?m18
  case m18 => exact AllReadyH.nil
  go_simp
  refine hK.out _ _ ?h18 (fun hHeld => ?k18)
  case h18 => ((try dsimp only); (first | go_keep | (refine ⟨?_, ?_⟩ <;> first | assumption | go_keep)))
  clear hK K
  try simp only [Act.put, List.setIfInBounds_toArray, List.set_cons_zero, List.set_cons_succ]
  refine wpAnyH_done (by kernel_rfl) ?_ _
  refine NoPanic.normal ?_
  obtain ⟨p1, p2, p3⟩ := ans_set (.string ((fd lb b).getD ⟨#[]⟩)) (.bool (fd lb b).isSome) (H.g1.below b5) h5A (H.bl2.trans (Keep.ofBelow b5 (fun k hk _ => hk))) hS
  go_wp2_with fail
  refine bodyPost_ret (res13 (p := S + 1) rfl (cellH p1 0 _ rfl) (cellH p1 1 _ rfl)) rfl ?_
  exact ⟨rfl, _, _, p2, p3⟩

set_option maxHeartbeats 4000000 in
set_option maxRecDepth 100000 in
theorem dirs_root (w : World) (B base : Nat) (v1 v2 : Value) (lp lb : List S31) (a b id : ByteArray) (h : DirsB w B base v1 v2 lp lb) (hbase : base ≤ w.heap.size) (h1 : lp.length ≤ 900000) (h2 : lb.length ≤ 900000) :
    Calls Try.prog 13 #[.pointer (some ⟨B, 0, none⟩), .agg #[.int .i64 5, .string a, .string b], .string id] w fun e w' => e = .returned (.agg #[.string ⟨#[]⟩, .bool false]) ∧
      ∃ v1' v2', DirsB w' B base v1' v2' [⟨⟨#[]⟩, id⟩] [⟨id, ⟨#[]⟩⟩] ∧ Keep (fun k => k ≠ B) w w' := by
  have H := st0 w B base v1 v2 lp lb 5 a b h hbase
  have s0 := cellH H.q2 0 (.int .i64 5) rfl
  have s1 := cellH H.q2 1 (.string a) rfl
  have s2 := cellH H.q2 2 (.string b) rfl
  have e0 : ((5 : Int) == 0) = false := rfl
  have e1 : ((5 : Int) == 1) = false := rfl
  have e2 : ((5 : Int) == 2) = false := rfl
  have e3 : ((5 : Int) == 3) = false := rfl
  have e4 : ((5 : Int) == 4) = false := rfl
  have e5 : ((5 : Int) == 5) = true := rfl
  clear h hbase
  go_enter Try.func13, Try.ntmps13
  go_upto_region 22 with fail
  obtain ⟨W, hW⟩ : ∃ W, ((w.alloc (.cells #[.int .i64 5, .string a, .string b] 34)).alloc (.cells #[.string ⟨#[]⟩, .bool false] 40)) = W := ⟨_, rfl⟩
  obtain ⟨S, hS⟩ : ∃ S, w.heap.size = S := ⟨_, rfl⟩
  rw [hW, hS] at H s0 s1 s2
  rw [hW, hS]
  clear hW
  have sz := H.sz
  have lB := H.lB
  have hb := H.hb
  have hn := mk_new H.g1 (by omega) ⟨⟨#[]⟩, id⟩ ⟨id, ⟨#[]⟩⟩
  dsimp only at hn
  have hB2 := (Below.heap_alloc (W.alloc (.cells #[.string ⟨#[]⟩, .string id] 31)) (.cells #[.string id, .string ⟨#[]⟩] 31) B (by simp; omega)).trans ((Below.heap_alloc W (.cells #[.string ⟨#[]⟩, .string id] 31) B (by omega)).trans H.g1.hB)
  have x0 := cellH hB2 0 v1 rfl
  have y0 := frozenH hB2 0
  have hB3 := setH hB2 0 (.slice (some ⟨W.heap.size, 0, none⟩) 1 1) (by simp)
  have x1 := cellH hB3 1 v2 rfl
  have y1 := frozenH hB3 1
  have h5A := (hn.2.block (S + 1) (by omega) (by omega)).trans H.q3
  have a0 := cellH h5A 0 (.string ⟨#[]⟩) rfl
  have a1 := cellH h5A 1 (.bool false) rfl
  have u0 := frozenH h5A 0
  have u1 := frozenH h5A 1
  obtain ⟨p1, p2, p3⟩ := ans_set (.string ⟨#[]⟩) (.bool false) hn.1 h5A (H.bl2.trans hn.2) hS
  clear hn hB2 hB3 h5A sz
  go_wp2_with fail
  refine bodyPost_ret (res13 (p := S + 1) rfl (cellH p1 0 _ rfl) (cellH p1 1 _ rfl)) rfl ?_
  exact ⟨rfl, _, _, p2, p3⟩

set_option maxHeartbeats 4000000 in
set_option maxRecDepth 100000 in
theorem dirs_root3 (w : World) (B base : Nat) (v1 v2 : Value) (lp lb : List S31) (b id : ByteArray) (h : DirsB w B base v1 v2 lp lb) (hbase : base ≤ w.heap.size) (h1 : lp.length ≤ 900000) (h2 : lb.length ≤ 900000) :
    Calls Try.prog 13 #[.pointer (some ⟨B, 0, none⟩), .agg #[.int .i64 3, .string ⟨#[]⟩, .string b], .string id] w fun e w' => e = .returned (.agg #[.string ⟨#[]⟩, .bool false]) ∧
      ∃ v1' v2', DirsB w' B base v1' v2' [⟨⟨#[]⟩, id⟩] [⟨id, ⟨#[]⟩⟩] ∧ Keep (fun k => k ≠ B) w w' := by
  have H := st0 w B base v1 v2 lp lb 3 ⟨#[]⟩ b h hbase
  have s0 := cellH H.q2 0 (.int .i64 3) rfl
  have s1 := cellH H.q2 1 (.string ⟨#[]⟩) rfl
  have s2 := cellH H.q2 2 (.string b) rfl
  have e0 : ((3 : Int) == 0) = false := rfl
  have e1 : ((3 : Int) == 1) = false := rfl
  have e2 : ((3 : Int) == 2) = false := rfl
  have e3 : ((3 : Int) == 3) = true := rfl
  have ea : (⟨#[]⟩ : ByteArray).toList.isEmpty = true := by rw [ByteArray.toList_eq]; rfl
  clear h hbase
  go_enter Try.func13, Try.ntmps13
  go_upto_region 11 with fail
  obtain ⟨W, hW⟩ : ∃ W, ((w.alloc (.cells #[.int .i64 3, .string ⟨#[]⟩, .string b] 34)).alloc (.cells #[.string ⟨#[]⟩, .bool false] 40)) = W := ⟨_, rfl⟩
  obtain ⟨S, hS⟩ : ∃ S, w.heap.size = S := ⟨_, rfl⟩
  rw [hW, hS] at H s0 s1 s2
  rw [hW, hS]
  clear hW
  have sz := H.sz
  have lB := H.lB
  have hb := H.hb
  have hn := mk_new H.g1 (by omega) ⟨⟨#[]⟩, id⟩ ⟨id, ⟨#[]⟩⟩
  dsimp only at hn
  have hB2 := (Below.heap_alloc (W.alloc (.cells #[.string ⟨#[]⟩, .string id] 31)) (.cells #[.string id, .string ⟨#[]⟩] 31) B (by simp; omega)).trans ((Below.heap_alloc W (.cells #[.string ⟨#[]⟩, .string id] 31) B (by omega)).trans H.g1.hB)
  have x0 := cellH hB2 0 v1 rfl
  have y0 := frozenH hB2 0
  have hB3 := setH hB2 0 (.slice (some ⟨W.heap.size, 0, none⟩) 1 1) (by simp)
  have x1 := cellH hB3 1 v2 rfl
  have y1 := frozenH hB3 1
  have h5A := (hn.2.block (S + 1) (by omega) (by omega)).trans H.q3
  have a0 := cellH h5A 0 (.string ⟨#[]⟩) rfl
  have a1 := cellH h5A 1 (.bool false) rfl
  have u0 := frozenH h5A 0
  have u1 := frozenH h5A 1
  obtain ⟨p1, p2, p3⟩ := ans_set (.string ⟨#[]⟩) (.bool false) hn.1 h5A (H.bl2.trans hn.2) hS
  clear hn hB2 hB3 h5A sz
  go_wp2_with fail
  refine bodyPost_ret (res13 (p := S + 1) rfl (cellH p1 0 _ rfl) (cellH p1 1 _ rfl)) rfl ?_
  exact ⟨rfl, _, _, p2, p3⟩

set_option maxHeartbeats 4000000 in
set_option maxRecDepth 100000 in
theorem dirs_empty (w : World) (B base : Nat) (v1 v2 : Value) (lp lb : List S31) (a b id : ByteArray) (h : DirsB w B base v1 v2 lp lb) (hbase : base ≤ w.heap.size) (h1 : lp.length ≤ 900000) (h2 : lb.length ≤ 900000) :
    Calls Try.prog 13 #[.pointer (some ⟨B, 0, none⟩), .agg #[.int .i64 4, .string a, .string b], .string id] w fun e w' => e = .returned (.agg #[.string ⟨#[]⟩, .bool false]) ∧
      ∃ v1' v2', DirsB w' B base v1' v2' [] [] ∧ Keep (fun k => k ≠ B) w w' := by
  have H := st0 w B base v1 v2 lp lb 4 a b h hbase
  have s0 := cellH H.q2 0 (.int .i64 4) rfl
  have s1 := cellH H.q2 1 (.string a) rfl
  have s2 := cellH H.q2 2 (.string b) rfl
  have e0 : ((4 : Int) == 0) = false := rfl
  have e1 : ((4 : Int) == 1) = false := rfl
  have e2 : ((4 : Int) == 2) = false := rfl
  have e3 : ((4 : Int) == 3) = false := rfl
  have e4 : ((4 : Int) == 4) = true := rfl
  clear h hbase
  go_enter Try.func13, Try.ntmps13
  go_upto_region 20 with fail
  obtain ⟨W, hW⟩ : ∃ W, ((w.alloc (.cells #[.int .i64 4, .string a, .string b] 34)).alloc (.cells #[.string ⟨#[]⟩, .bool false] 40)) = W := ⟨_, rfl⟩
  obtain ⟨S, hS⟩ : ∃ S, w.heap.size = S := ⟨_, rfl⟩
  rw [hW, hS] at H s0 s1 s2
  rw [hW, hS]
  clear hW
  have sz := H.sz
  have lB := H.lB
  have hb := H.hb
  have hn := mk_nil H.g1
  have hB2 := H.g1.hB
  have x0 := cellH hB2 0 v1 rfl
  have y0 := frozenH hB2 0
  have hB3 := setH hB2 0 (.slice none 0 0) (by simp)
  have x1 := cellH hB3 1 v2 rfl
  have y1 := frozenH hB3 1
  have h5A := (hn.2.block (S + 1) (by omega) (by omega)).trans H.q3
  have a0 := cellH h5A 0 (.string ⟨#[]⟩) rfl
  have a1 := cellH h5A 1 (.bool false) rfl
  have u0 := frozenH h5A 0
  have u1 := frozenH h5A 1
  obtain ⟨p1, p2, p3⟩ := ans_set (.string ⟨#[]⟩) (.bool false) hn.1 h5A (H.bl2.trans hn.2) hS
  clear hn hB2 hB3 h5A sz
  go_wp2_with fail
  refine bodyPost_ret (res13 (p := S + 1) rfl (cellH p1 0 _ rfl) (cellH p1 1 _ rfl)) rfl ?_
  exact ⟨rfl, _, _, p2, p3⟩
end Go.Proofs.Ytkdmdoflfaldiaa.Given
