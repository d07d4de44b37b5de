/- The contract of spec.Dirs.Step's first arm (a path is put): what stands of the path and of the ID goes, the pair comes behind. Up to 900,000 pairs. -/
import Derived.Test.YtkdmdoflfaldiaaDs
import Derived.Deep.RegionHeld3
import Derived.Deep.AppendLies
namespace Go.Proofs.Ytkdmdoflfaldiaa.Given
open Go.RowKit Go.WideMaps Go.Maps Go.Proofs.YtkdmdoflfaldiaaW.PrintWords Go.Proofs.Ytkdmdoflfaldiaa.PD Go.Proofs.Ytkdmdoflfaldiaa.Pl
set_option linter.unusedVariables false
set_option linter.unusedSimpArgs false

theorem reps_flat {R : S31 → List Value → Prop} (hR : ∀ p c, R p c → c = cells31 p) : ∀ (l : List S31) (cs : List Value), Reps R 2 l cs → cs = flat31 l
  | [], cs, h => by
    have := h.1
    simp at this
    simpa [flat31] using this
  | p :: r, cs, h => by
    have h0 := hR p _ (h.2 0 p rfl)
    have h1 := reps_flat hR r (cs.drop 2) ⟨by rw [List.length_drop, h.1]; simp; omega, fun j q hq => by
      have := h.2 (j + 1) q (by simpa using hq)
      rw [List.drop_drop]
      rwa [show (j + 1) * 2 = 2 + j * 2 by omega] at this⟩
    have h2 : cs = cs.take 2 ++ cs.drop 2 := (List.take_append_drop 2 cs).symm
    rw [h2, h1]
    simp at h0
    rw [h0]
    simp [flat31]
theorem own_of_R {w : World} {base : Nat} {ok : Nat → Prop} {v : Value} {l : List S31} (h : Kd.R k31 31 w base ok v l) : w.ownsRow base 31 2 v l.length (flat31 l) := by
  obtain ⟨_, inner, h1, h2⟩ := h
  have := reps_flat (fun p c hM => k31_openM hM) l inner h2
  rw [← this]
  exact h1
theorem own_mono {w : World} {b b' e size n : Nat} {v : Value} {xs : List Value} (h : w.ownsRow b e size v n xs) (hb : b' ≤ b) : w.ownsRow b' e size v n xs := by
  obtain ⟨h1, h2⟩ := h
  rcases h2 with h2 | ⟨g, cap, cur, rfl, hg, r⟩
  · exact ⟨h1, .inl h2⟩
  · exact ⟨h1, .inr ⟨g, cap, cur, rfl, Nat.le_trans hb hg, r⟩⟩
theorem C_of_own {w : World} {base : Nat} {A : Option Addr} {n c : Nat} {l : List S31} (hn : n = l.length) (h : w.ownsRow base 31 2 (.slice A n c) n (flat31 l)) : Kd.C k31 w A l.length l ∧ l.length ≤ c := by
  subst hn
  obtain ⟨A', c', e, hc, hC⟩ := Kd.R_reads (row31 h)
  cases e
  exact ⟨hC, hc⟩

/-- What without answers over a row that is owned. -/
theorem wo_any (w : World) (base : Nat) (A : Option Addr) (n c : Nat) (l : List S31) (k : ByteArray) (hn : n = l.length) (h : w.ownsRow base 31 2 (.slice A n c) n (flat31 l)) (hl : l.length ≤ 1000000) :
    Calls Try.prog 26 #[.slice A n c, .string k] w fun e w' => ∃ v, e = .returned v ∧ w'.ownsRow w.heap.size 31 2 v (wo l k).length (flat31 (wo l k)) ∧ Below w.heap.size w w' := by
  obtain ⟨hC, hc⟩ := C_of_own hn h
  subst hn
  refine (spec_without.calls _ A c l k _ w hC hc (wo_is k l hl)).mono ?_
  rintro e w' ⟨v, rfl, hR, hb⟩
  exact ⟨v, rfl, own_of_R hR, hb⟩
theorem fd_any (w : World) (base : Nat) (A : Option Addr) (n c : Nat) (l : List S31) (k : ByteArray) (hn : n = l.length) (h : w.ownsRow base 31 2 (.slice A n c) n (flat31 l)) (hl : l.length ≤ 1000000) :
    Calls Try.prog 27 #[.slice A n c, .string k] w fun e w' => e = .returned (.agg #[.string ((fd l k).getD ⟨#[]⟩), .bool (fd l k).isSome]) ∧ Below w.heap.size w w' := by
  obtain ⟨hC, hc⟩ := C_of_own hn h
  subst hn
  exact spec_find.calls _ A c l k _ _ w hC hc (fd_is k l hl)

theorem sinfo31 : (Try.prog.info? 31).map (fun i => (i.zero, i.size, i.bytes)) = some (some (.agg #[.string ⟨#[]⟩, .string ⟨#[]⟩]), 2, 32) := by kernel_rfl

/-- What spec.Dirs at block B knows: paths with IDs, and IDs with paths. -/
structure DirsB (w : World) (B base : Nat) (v1 v2 : Value) (lp lb : List S31) : Prop where
  hB : w.heap[B]? = some (.cells #[v1, v2] 38 (0, 0))
  o1 : w.ownsRow base 31 2 v1 lp.length (flat31 lp)
  o2 : w.ownsRow base 31 2 v2 lb.length (flat31 lb)
theorem DirsB.keep {w w' : World} {B base : Nat} {v1 v2 : Value} {lp lb : List S31} (h : DirsB w B base v1 v2 lp lb) (hk : ∀ k, k < w.heap.size → w'.heap[k]? = w.heap[k]?) : DirsB w' B base v1 v2 lp lb :=
  ⟨(hk B (ltH h.hB)).trans h.hB, own_move h.o1 (fun k e => hk k (own_lt h.o1 k e)), own_move h.o2 (fun k e => hk k (own_lt h.o2 k e))⟩
theorem DirsB.below {w w' : World} {B base : Nat} {v1 v2 : Value} {lp lb : List S31} (h : DirsB w B base v1 v2 lp lb) (hb : Below w.heap.size w w') : DirsB w' B base v1 v2 lp lb := h.keep hb.block


theorem B_step {W w6 : World} {B : Nat} {v1 v2 : Value} {lp lb : List S31} {base : Nat} (h : DirsB W B base v1 v2 lp lb) (hk : ∀ k, k < W.heap.size → w6.heap[k]? = W.heap[k]?) (v : Value) (l : List S31) (ho : w6.ownsRow W.heap.size 31 2 v l.length (flat31 l)) (hbase : base ≤ W.heap.size) :
    DirsB (w6.setCell ⟨B, 0, none⟩ v) B base v v2 l lb ∧ DirsB (w6.setCell ⟨B, 1, none⟩ v) B base v1 v lp l := by
  have hB := h.hB
  have lB := ltH hB
  have h6 := (hk B lB).trans hB
  have n2 := own_ne h.o2 hB (by decide)
  have n1 := own_ne h.o1 hB (by decide)
  have nv := own_ne ho h6 (by decide)
  refine ⟨⟨setH h6 0 v (by simp), ?_, ?_⟩, ⟨setH h6 1 v (by simp), ?_, ?_⟩⟩
  · exact own_move (own_mono ho hbase) (fun k e => Below.heap_setCell _ _ _ k (fun e' => nv (by rw [e, e'])))
  · exact own_move h.o2 (fun k e => (Below.heap_setCell _ _ _ k (fun e' => n2 (by rw [e, e']))).trans (hk k (own_lt h.o2 k e)))
  · exact own_move h.o1 (fun k e => (Below.heap_setCell _ _ _ k (fun e' => n1 (by rw [e, e']))).trans (hk k (own_lt h.o1 k e)))
  · exact own_move (own_mono ho hbase) (fun k e => Below.heap_setCell _ _ _ k (fun e' => nv (by rw [e, e'])))
theorem keepB_step {W w6 : World} {B j : Nat} (v : Value) (hb : Below W.heap.size W w6) : Keep (fun k => k ≠ B) W (w6.setCell ⟨B, j, none⟩ v) :=
  (Keep.ofBelow hb (fun k hk _ => hk)).trans (Keep.setCell _ _ _ (fun k => k rfl))

theorem res13 {wr : World} {tmps : Array Value} {p : Nat} {a b : Value} (h6 : tmps.getD 6 undef = .pointer (some ⟨p, 0, none⟩)) (h0 : wr.cell? ⟨p, 0, none⟩ = some a) (h1 : wr.cell? ⟨p, 1, none⟩ = some b) :
    (results Try.f13 tmps).run Try.prog wr = .ok (.agg #[a, b]) wr := by
  have h6' : tmps[6]?.getD undef = .pointer (some ⟨p, 0, none⟩) := by simpa using h6
  clear h6
  have hu := Try.underlying40
  have ha := Try.isAgg40
  simp [results, Try.results13, go_sem, h6', h0, h1, hu]
theorem ans_set {w0 w8 : World} {B S base : Nat} {v1 v2 c0 c1 : Value} {lp lb : List S31} (a0 a1 : Value) (h : DirsB w8 B base v1 v2 lp lb) (hA : w8.heap[S + 1]? = some (.cells #[c0, c1] 40 (0, 0))) (hk : Keep (fun k => k ≠ B) w0 w8) (hS : w0.heap.size = S) :
    ((w8.setCell ⟨S + 1, 0, none⟩ a0).setCell ⟨S + 1, 1, none⟩ a1).heap[S + 1]? = some (.cells #[a0, a1] 40 (0, 0)) ∧ DirsB ((w8.setCell ⟨S + 1, 0, none⟩ a0).setCell ⟨S + 1, 1, none⟩ a1) B base v1 v2 lp lb ∧
      Keep (fun k => k ≠ B) w0 ((w8.setCell ⟨S + 1, 0, none⟩ a0).setCell ⟨S + 1, 1, none⟩ a1) := by
  have g1 := setH hA 0 a0 (by simp)
  have g2 := setH g1 1 a1 (by simp)
  have sc : ∀ k, k ≠ S + 1 → ((w8.setCell ⟨S + 1, 0, none⟩ a0).setCell ⟨S + 1, 1, none⟩ a1).heap[k]? = w8.heap[k]? := fun k hk => (Below.heap_setCell _ _ _ k hk).trans (Below.heap_setCell _ _ _ k hk)
  refine ⟨g2, ⟨(sc B (neT h.hB hA (by decide))).trans h.hB, own_move h.o1 (fun k e => sc k (fun e' => own_ne h.o1 hA (by decide) (by rw [e, e']))), own_move h.o2 (fun k e => sc k (fun e' => own_ne h.o2 hA (by decide) (by rw [e, e'])))⟩, ?_⟩
  refine ⟨hk.os, hk.tape, hk.output, ?_, fun k h1 h2 => (sc k (by omega)).trans (hk.block k h1 h2)⟩
  have := hk.size
  simpa using this

set_option maxHeartbeats 4000000 in
set_option maxRecDepth 100000 in
theorem dirs_put (w : World) (B base : Nat) (v1 v2 : Value) (lp lb : List S31) (a b id : ByteArray) (h : DirsB w B base v1 v2 lp lb) (hbase : base ≤ w.heap.size) (h1 : lp.length ≤ 900000) (h2 : lb.length ≤ 900000) :
    Calls Try.prog 13 #[.pointer (some ⟨B, 0, none⟩), .agg #[.int .i64 0, .string a, .string b], .string id] w fun e w' => e = .returned (.agg #[.string ⟨#[]⟩, .bool false]) ∧
      ∃ v1' v2', DirsB w' B base v1' v2' (wo lp a ++ [⟨a, b⟩]) (wo lb b ++ [⟨b, a⟩]) ∧ Keep (fun k => k ≠ B) w w' := by
  obtain ⟨S, hS⟩ : ∃ S, w.heap.size = S := ⟨_, rfl⟩
  have lB := ltH h.hB
  rw [hS] at lB hbase
  have q1 := (MapKept.heap_alloc w (.cells #[.int .i64 0, .string a, .string b] 34)).1
  have z1 : (w.alloc (.cells #[.int .i64 0, .string a, .string b] 34)).heap.size = S + 1 := by simp [hS]
  have q2 := (Below.heap_alloc (w.alloc (.cells #[.int .i64 0, .string a, .string b] 34)) (.cells #[.string ⟨#[]⟩, .bool false] 40) w.heap.size (by simp)).trans q1
  have q3 := (MapKept.heap_alloc (w.alloc (.cells #[.int .i64 0, .string a, .string b] 34)) (.cells #[.string ⟨#[]⟩, .bool false] 40)).1
  have bl2 : Below w.heap.size w ((w.alloc (.cells #[.int .i64 0, .string a, .string b] 34)).alloc (.cells #[.string ⟨#[]⟩, .bool false] 40)) := ((Below.refl _ _).alloc (Nat.le_refl _) _).alloc (by simp) _
  rw [z1] at q3
  rw [hS] at q2
  clear q1 z1
  have g1 := h.below bl2
  have s0 := cellH q2 0 _ rfl
  have s1 := cellH q2 1 _ rfl
  have s2 := cellH q2 2 _ rfl
  simp only [List.getElem_toArray, List.getElem_cons_succ, List.getElem_cons_zero] at s0 s1 s2
  have e0 : (0 : Int) == 0 := rfl
  go_enter Try.func13, Try.ntmps13
  go_upto_region 3 with fail
  obtain ⟨W, hW⟩ : ∃ W, ((w.alloc (.cells #[.int .i64 0, .string a, .string b] 34)).alloc (.cells #[.string ⟨#[]⟩, .bool false] 40)) = W := ⟨_, rfl⟩
  rw [hW] at q2 q3 bl2 g1 s0 s1 s2 ⊢
  clear hW h
  obtain ⟨A1, c1, e1⟩ := own_slice g1.o1
  subst e1
  have lW : S + 1 < W.heap.size := ltH q3
  obtain ⟨j0, hj0, jz0, jz1, jz2⟩ := info_parts sinfo31
  have c0 := cellH g1.hB 0 _ rfl
  have c1' := cellH g1.hB 1 _ rfl
  have f0 := frozenH g1.hB 0
  have f1 := frozenH g1.hB 1
  simp only [List.getElem_toArray, List.getElem_cons_succ, List.getElem_cons_zero] at c0 c1'
  have baseW : base ≤ W.heap.size := by omega
  have lBW : B < W.heap.size := by omega
  go_cut [4, 6] (fun v4 v6 wx => v4 = .pointer (some ⟨S, 0, none⟩) ∧ v6 = .pointer (some ⟨S + 1, 0, none⟩) ∧ ∃ v1', DirsB wx B base v1' v2 (wo lp a ++ [⟨a, b⟩]) lb ∧ Keep (fun k => k ≠ B) W wx)
  case first =>
    have o1d : Hid (W.drew.ownsRow base 31 2 (.slice A1 lp.length c1) lp.length (flat31 lp)) := Lib.hid g1.o1.drew
    have o1a : Hid ((W.alloc (.cells #[.string a, .string b] 31)).drew.ownsRow base 31 2 (.slice A1 lp.length c1) lp.length (flat31 lp)) := Lib.hid (g1.o1.alloc _).drew
    have q1d : Hid (((W.alloc (.cells #[.string a, .string b] 31)).drew).heap[W.heap.size]? = some (.cells #[.string a, .string b] 31 (0, 0))) := Lib.hid ((MapKept.heap_alloc W _).1)
    have bd : Hid (Below W.heap.size W W.drew) := Lib.hid (below_drew1 (Below.refl _ _))
    have ba : Hid (Below W.heap.size W (W.alloc (.cells #[.string a, .string b] 31)).drew) := Lib.hid (below_drew1 ((Below.refl _ _).alloc (Nat.le_refl _) _))
    have h9 : lp.length ≤ 1000000 := by omega
    have hwo := wo_le lp a
    refine wp_region_noPanic ?_
    refine wp_region_held_drew (S := (fun w' => w'.cell? ⟨S, 1, none⟩ = some (.string a) ∧ w'.cell? ⟨S, 2, none⟩ = some (.string b))) (by kernel_rfl) ?h1 (fun hHeld => ?k1)
    case h1 => ((try dsimp only); (first | go_keep | (refine ⟨?_, ?_⟩ <;> first | assumption | go_keep | (rw [World.cell?_setCell_far _ _ _ _ (by simp; omega)]; assumption))))
    refine wpAnyH_take (i := 0) (oi := { dst := some 13, op := Go.Op.move (Go.Operand.tmp 0), type := 50, pos := "paths.go:145", after := #[], guard := none }) (v := ?v2) rfl (by kernel_rfl) (by kernel_rfl) (by kernel_rfl) (fun _ _ _ h => h) (Or.inl ⟨by rfl, ?y2⟩) (by assumption) ?r2
    case y2 => (intro w hSw; (try dsimp only at hSw); first | (go_simp; done) | (go_simp; with_reducible rfl))
    try simp only [Act.put, List.setIfInBounds_toArray, List.set_cons_zero, List.set_cons_succ]
    refine wpAnyH_take (i := 1) (oi := { dst := some 14, op := Go.Op.move (Go.Operand.tmp 0), type := 50, pos := "paths.go:145", after := #[], guard := none }) (v := ?v3) rfl (by kernel_rfl) (by kernel_rfl) (by kernel_rfl) (fun _ _ _ h => h) (Or.inl ⟨by rfl, ?y3⟩) (by assumption) ?r3
    case y3 => (intro w hSw; (try dsimp only at hSw); first | (go_simp; done) | (go_simp; with_reducible rfl))
    try simp only [Act.put, List.setIfInBounds_toArray, List.set_cons_zero, List.set_cons_succ]
    refine wpAnyH_take (i := 2) (oi := { dst := some 15, op := Go.Op.nilCheck (Go.Operand.tmp 14), type := 0, pos := "paths.go:145", after := #[{ on := 1, ground := Go.Ground.data }], guard := none }) (v := ?v4) rfl (by kernel_rfl) (by kernel_rfl) (by kernel_rfl) (fun _ _ _ h => h) (Or.inl ⟨by rfl, ?y4⟩) (by assumption) ?r4
    case y4 => (intro w hSw; (try dsimp only at hSw); first | (go_simp; done) | (go_simp; with_reducible rfl))
    try simp only [Act.put, List.setIfInBounds_toArray, List.set_cons_zero, List.set_cons_succ]
    refine wpAnyH_take (i := 3) (oi := { dst := some 16, op := Go.Op.fieldAddr 38 (Go.Operand.tmp 15) 0, type := 0, pos := "paths.go:145", after := #[{ on := 2, ground := Go.Ground.data }], guard := none }) (v := ?v5) rfl (by kernel_rfl) (by kernel_rfl) (by kernel_rfl) (fun _ _ _ h => h) (Or.inl ⟨by rfl, ?y5⟩) (by assumption) ?r5
    case y5 => (intro w hSw; (try dsimp only at hSw); first | (go_simp; done) | (go_simp; with_reducible rfl))
    try simp only [Act.put, List.setIfInBounds_toArray, List.set_cons_zero, List.set_cons_succ]
    refine wpAnyH_take (i := 5) (oi := { dst := some 18, op := Go.Op.fieldAddr 34 (Go.Operand.tmp 4) 1, type := 0, pos := "paths.go:145", after := #[], guard := none }) (v := ?v6) rfl (by kernel_rfl) (by kernel_rfl) (by kernel_rfl) (fun _ _ _ h => h) (Or.inl ⟨by rfl, ?y6⟩) (by assumption) ?r6
    case y6 => (intro w hSw; (try dsimp only at hSw); first | (go_simp; done) | (go_simp; with_reducible rfl))
    try simp only [Act.put, List.setIfInBounds_toArray, List.set_cons_zero, List.set_cons_succ]
    refine wpAnyH_take (i := 6) (oi := { dst := some 19, op := Go.Op.load 9 (Go.Operand.tmp 18), type := 9, pos := "paths.go:145", after := #[{ on := 5, ground := Go.Ground.data }], guard := none }) (v := ?v7) rfl (by kernel_rfl) (by kernel_rfl) (by kernel_rfl) (fun _ _ _ h => h) (Or.inl ⟨by rfl, ?y7⟩) (by assumption) ?r7
    case y7 => (intro w hSw; (try dsimp only at hSw); first | (go_simp; done) | (go_simp; with_reducible rfl))
    try simp only [Act.put, List.setIfInBounds_toArray, List.set_cons_zero, List.set_cons_succ]
    refine wpAnyH_take (i := 8) (oi := { dst := some 21, op := Go.Op.fieldAddr 34 (Go.Operand.tmp 4) 1, type := 0, pos := "paths.go:145", after := #[], guard := none }) (v := ?v8) rfl (by kernel_rfl) (by kernel_rfl) (by kernel_rfl) (fun _ _ _ h => h) (Or.inl ⟨by rfl, ?y8⟩) (by assumption) ?r8
    case y8 => (intro w hSw; (try dsimp only at hSw); first | (go_simp; done) | (go_simp; with_reducible rfl))
    try simp only [Act.put, List.setIfInBounds_toArray, List.set_cons_zero, List.set_cons_succ]
    refine wpAnyH_take (i := 9) (oi := { dst := some 22, op := Go.Op.load 9 (Go.Operand.tmp 21), type := 9, pos := "paths.go:145", after := #[{ on := 8, ground := Go.Ground.data }], guard := none }) (v := ?v9) rfl (by kernel_rfl) (by kernel_rfl) (by kernel_rfl) (fun _ _ _ h => h) (Or.inl ⟨by rfl, ?y9⟩) (by assumption) ?r9
    case y9 => (intro w hSw; (try dsimp only at hSw); first | (go_simp; done) | (go_simp; with_reducible rfl))
    try simp only [Act.put, List.setIfInBounds_toArray, List.set_cons_zero, List.set_cons_succ]
    refine wpAnyH_take (i := 10) (oi := { dst := some 23, op := Go.Op.fieldAddr 34 (Go.Operand.tmp 4) 2, type := 0, pos := "paths.go:145", after := #[], guard := none }) (v := ?v10) rfl (by kernel_rfl) (by kernel_rfl) (by kernel_rfl) (fun _ _ _ h => h) (Or.inl ⟨by rfl, ?y10⟩) (by assumption) ?r10
    case y10 => (intro w hSw; (try dsimp only at hSw); first | (go_simp; done) | (go_simp; with_reducible rfl))
    try simp only [Act.put, List.setIfInBounds_toArray, List.set_cons_zero, List.set_cons_succ]
    refine wpAnyH_take (i := 11) (oi := { dst := some 24, op := Go.Op.load 9 (Go.Operand.tmp 23), type := 9, pos := "paths.go:145", after := #[{ on := 10, ground := Go.Ground.data }], guard := none }) (v := ?v11) rfl (by kernel_rfl) (by kernel_rfl) (by kernel_rfl) (fun _ _ _ h => h) (Or.inl ⟨by rfl, ?y11⟩) (by assumption) ?r11
    case y11 => (intro w hSw; (try dsimp only at hSw); first | (go_simp; done) | (go_simp; with_reducible rfl))
    try simp only [Act.put, List.setIfInBounds_toArray, List.set_cons_zero, List.set_cons_succ]
    refine wpAnyH_take (i := 12) (oi := { dst := some 25, op := Go.Op.build 31 #[(0, Go.Operand.tmp 22), (1, Go.Operand.tmp 24)], type := 31, pos := "paths.go:145", after := #[{ on := 9, ground := Go.Ground.data }, { on := 11, ground := Go.Ground.data }], guard := none }) (v := ?v12) rfl (by kernel_rfl) (by kernel_rfl) (by kernel_rfl) (fun _ _ _ h => h) (Or.inl ⟨by rfl, ?y12⟩) (by assumption) ?r12
    case y12 => (intro w hSw; (try dsimp only at hSw); first | (go_simp; done) | (go_simp; with_reducible rfl))
    try simp only [Act.put, List.setIfInBounds_toArray, List.set_cons_zero, List.set_cons_succ]
    refine wpAnyH_ready (rs := [4, 13]) (by kernel_rfl) (by simp) ?_
    refine AllReadyH.cons (o := { dst := some 17, op := Go.Op.load 32 (Go.Operand.tmp 16), type := 32, pos := "paths.go:145", after := #[{ on := 3, ground := Go.Ground.data }], guard := none }) rfl (fun K hK => ?s13) ?m13
    case s13 =>
      go_simp
      refine hK.out _ _ ?h13 (fun hHeld => ?k13)
      case h13 => ((try dsimp only); (first | go_keep | (refine ⟨?_, ?_⟩ <;> first | assumption | go_keep | (rw [World.cell?_setCell_far _ _ _ _ (by simp; omega)]; assumption))))
      clear hK K
      try simp only [Act.put, List.setIfInBounds_toArray, List.set_cons_zero, List.set_cons_succ]
      refine wpAnyH_ready (rs := [7, 13]) (by kernel_rfl) (by simp) ?_
      refine AllReadyH.cons (o := { dst := some 20, op := Go.Op.call { callee := Go.Callee.value (Go.Operand.func 26), args := #[Go.Operand.tmp 17, Go.Operand.tmp 19], argTypes := #[32, 9] }, type := 32, pos := "paths.go:145", after := #[{ on := 4, ground := Go.Ground.data }, { on := 6, ground := Go.Ground.data }], guard := none }) rfl (fun K hK => ?s14) ?m14
      case s14 =>
        go_simp; go_at_call 26; refine (wo_any _ base A1 lp.length c1 lp a rfl ?own h9).mono ?_; (case own => first | with_reducible exact o1d.out | with_reducible exact o1a.out); rintro e w5 ⟨v5, rfl, own5', hb5⟩; have own5 := own_mono (b' := W.heap.size) own5' (by first | exact bd.out.size | exact ba.out.size); have b5 : Below W.heap.size W w5 := (by first | exact bd.out.trans (hb5.mono bd.out.size) | exact ba.out.trans (hb5.mono ba.out.size)); have h5B := (b5.block B lBW).trans g1.hB; have n5B := own_ne own5 h5B (by decide); have n5S := own_ne own5 ((b5.block S (by omega)).trans q2) (by decide); have sz5 := b5.size; clear own5'; have k51 := cellH ((b5.block S (by omega)).trans q2) 1 (.string a) rfl; have k52 := cellH ((b5.block S (by omega)).trans q2) 2 (.string b) rfl; have k50 := cellH h5B 0 (.slice A1 lp.length c1) rfl
        refine hK.out _ _ ?h14 (fun hHeld => ?k14)
        case h14 => ((try dsimp only); (first | go_keep | (refine ⟨?_, ?_⟩ <;> first | assumption | go_keep | (rw [World.cell?_setCell_far _ _ _ _ (by simp; omega)]; assumption))))
        clear hK K
        try simp only [Act.put, List.setIfInBounds_toArray, List.set_cons_zero, List.set_cons_succ]
        refine wpAnyH_ready (rs := [13]) (by kernel_rfl) (by simp) ?_
        refine AllReadyH.cons (o := { dst := some 26, op := Go.Op.buildSlice 32 1 #[(0, Go.Operand.tmp 25)], type := 32, pos := "paths.go:145", after := #[{ on := 12, ground := Go.Ground.data }], guard := none }) rfl (fun K hK => ?s15) ?m15
        case s15 =>
          go_simp
          refine hK.out _ _ ?h15 (fun hHeld => ?k15)
          case h15 => ((try dsimp only); (first | go_keep | (refine ⟨?_, ?_⟩ <;> first | assumption | go_keep | (rw [World.cell?_setCell_far _ _ _ _ (by simp; omega)]; assumption))))
          clear hK K
          try simp only [Act.put, List.setIfInBounds_toArray, List.set_cons_zero, List.set_cons_succ]
          refine wpAnyH_ready (rs := [14]) (by kernel_rfl) (by simp) ?_
          refine AllReadyH.cons (o := { dst := some 27, op := Go.Op.call { callee := Go.Callee.builtin Go.Builtin.append, args := #[Go.Operand.tmp 20, Go.Operand.tmp 26], argTypes := #[32, 32] }, type := 32, pos := "paths.go:145", after := #[{ on := 7, ground := Go.Ground.data }, { on := 13, ground := Go.Ground.data }, { on := 7, ground := Go.Ground.chain }], guard := none }) rfl (fun K hK => ?s16) ?m16
          case s16 =>
            first | (refine step_append_lies _ rfl (.tmp 20) (.tmp 26) 32 rfl W.heap.size 31 j0 _ 2 32 Try.underlying32 hj0 jz0 jz1 jz2 rfl (by omega) v5 (wo lp a).length (flat31 (wo lp a)) rfl ?own ⟨w5.heap.size, 0, none⟩ 1 1 [.string a, .string b] rfl rfl ?news (by simp [Value.oneCell']) (by omega) (by unfold maxLen; omega) (by omega) ?base _ rfl ?_; (case own => exact own5.alloc _); (case news => exact World.news_of_block (cs := #[.string a, .string b]) (t := 31) (fr := (0, 0)) (MapKept.heap_alloc w5 _).1); (case base => simp; omega); intro gg cap w6 hown6 hgrow hat hlt6; have b6 := (b5.alloc sz5 (.cells #[.string a, .string b] 31)).grown hgrow (by simp; omega) (fun j hj => own_base own5 j hj); have h6B := (b6.block B lBW).trans g1.hB; have x6 := cellH h6B 0 (.slice A1 lp.length c1) rfl; have y6 := frozenH h6B 0; have k61 := cellH ((b6.block S (by omega)).trans q2) 1 (.string a) rfl; have k62 := cellH ((b6.block S (by omega)).trans q2) 2 (.string b) rfl) | (refine step_append_lies _ rfl (.tmp 20) (.tmp 26) 32 rfl W.heap.size 31 j0 _ 2 32 Try.underlying32 hj0 jz0 jz1 jz2 rfl (by omega) v5 (wo lp a).length (flat31 (wo lp a)) rfl ?own ⟨W.heap.size, 0, none⟩ 1 1 [.string a, .string b] rfl rfl ?news (by simp [Value.oneCell']) (by omega) (by unfold maxLen; omega) (by omega) ?base _ rfl ?_; (case own => exact own5); (case news => exact World.news_of_block (cs := #[.string a, .string b]) (t := 31) (fr := (0, 0)) ((hb5.block _ (ltH q1d.out)).trans q1d.out)); (case base => exact sz5); intro gg cap w6 hown6 hgrow hat hlt6; have b6 := b5.grown hgrow sz5 (fun j hj => own_base own5 j hj); have h6B := (b6.block B lBW).trans g1.hB; have x6 := cellH h6B 0 (.slice A1 lp.length c1) rfl; have y6 := frozenH h6B 0; have k61 := cellH ((b6.block S (by omega)).trans q2) 1 (.string a) rfl; have k62 := cellH ((b6.block S (by omega)).trans q2) 2 (.string b) rfl)
            refine hK.out _ _ ?h16 (fun hHeld => ?k16)
            case h16 => ((try dsimp only); (first | go_keep | (refine ⟨?_, ?_⟩ <;> first | assumption | go_keep | (rw [World.cell?_setCell_far _ _ _ _ (by simp; omega)]; assumption))))
            clear hK K
            try simp only [Act.put, List.setIfInBounds_toArray, List.set_cons_zero, List.set_cons_succ]
            refine wpAnyH_take (i := 15) (oi := { dst := some 28, op := Go.Op.nilCheck (Go.Operand.tmp 13), type := 0, pos := "paths.go:145", after := #[{ on := 0, ground := Go.Ground.data }, { on := 0, ground := Go.Ground.phase }, { on := 1, ground := Go.Ground.phase }, { on := 2, ground := Go.Ground.phase }, { on := 3, ground := Go.Ground.phase }, { on := 4, ground := Go.Ground.phase }, { on := 5, ground := Go.Ground.phase }, { on := 6, ground := Go.Ground.phase }, { on := 7, ground := Go.Ground.phase }, { on := 8, ground := Go.Ground.phase }, { on := 9, ground := Go.Ground.phase }, { on := 10, ground := Go.Ground.phase }, { on := 11, ground := Go.Ground.phase }, { on := 12, ground := Go.Ground.phase }, { on := 13, ground := Go.Ground.phase }, { on := 14, ground := Go.Ground.phase }], guard := none }) (v := ?v17) rfl (by kernel_rfl) (by kernel_rfl) (by kernel_rfl) (fun _ _ _ h => h) (Or.inl ⟨by rfl, ?y17⟩) (by assumption) ?r17
            case y17 => (intro w hSw; (try dsimp only at hSw); first | (go_simp; done) | (go_simp; with_reducible rfl))
            try simp only [Act.put, List.setIfInBounds_toArray, List.set_cons_zero, List.set_cons_succ]
            refine wpAnyH_take (i := 16) (oi := { dst := some 29, op := Go.Op.fieldAddr 38 (Go.Operand.tmp 28) 0, type := 0, pos := "paths.go:145", after := #[{ on := 15, ground := Go.Ground.data }, { on := 0, ground := Go.Ground.phase }, { on := 1, ground := Go.Ground.phase }, { on := 2, ground := Go.Ground.phase }, { on := 3, ground := Go.Ground.phase }, { on := 4, ground := Go.Ground.phase }, { on := 5, ground := Go.Ground.phase }, { on := 6, ground := Go.Ground.phase }, { on := 7, ground := Go.Ground.phase }, { on := 8, ground := Go.Ground.phase }, { on := 9, ground := Go.Ground.phase }, { on := 10, ground := Go.Ground.phase }, { on := 11, ground := Go.Ground.phase }, { on := 12, ground := Go.Ground.phase }, { on := 13, ground := Go.Ground.phase }, { on := 14, ground := Go.Ground.phase }], guard := none }) (v := ?v18) rfl (by kernel_rfl) (by kernel_rfl) (by kernel_rfl) (fun _ _ _ h => h) (Or.inl ⟨by rfl, ?y18⟩) (by assumption) ?r18
            case y18 => (intro w hSw; (try dsimp only at hSw); first | (go_simp; done) | (go_simp; with_reducible rfl))
            try simp only [Act.put, List.setIfInBounds_toArray, List.set_cons_zero, List.set_cons_succ]
            refine wpAnyH_ready (rs := [17]) (by kernel_rfl) (by simp) ?_
            refine AllReadyH.cons (o := { dst := none, op := Go.Op.store 32 (Go.Operand.tmp 29) (Go.Operand.tmp 27), type := 0, pos := "paths.go:145", after := #[{ on := 16, ground := Go.Ground.data }, { on := 14, ground := Go.Ground.data }, { on := 14, ground := Go.Ground.chain }, { on := 0, ground := Go.Ground.phase }, { on := 1, ground := Go.Ground.phase }, { on := 2, ground := Go.Ground.phase }, { on := 3, ground := Go.Ground.phase }, { on := 4, ground := Go.Ground.phase }, { on := 5, ground := Go.Ground.phase }, { on := 6, ground := Go.Ground.phase }, { on := 7, ground := Go.Ground.phase }, { on := 8, ground := Go.Ground.phase }, { on := 9, ground := Go.Ground.phase }, { on := 10, ground := Go.Ground.phase }, { on := 11, ground := Go.Ground.phase }, { on := 12, ground := Go.Ground.phase }, { on := 13, ground := Go.Ground.phase }, { on := 14, ground := Go.Ground.phase }], guard := none }) rfl (fun K hK => ?s19) ?m19
            case s19 =>
              go_simp
              refine hK.out _ _ ?h19 (fun hHeld => ?k19)
              case h19 => ((try dsimp only); (first | go_keep | (refine ⟨?_, ?_⟩ <;> first | assumption | go_keep | (rw [World.cell?_setCell_far _ _ _ _ (by simp; omega)]; assumption))))
              clear hK K
              try simp only [Act.put, List.setIfInBounds_toArray, List.set_cons_zero, List.set_cons_succ]
              refine wpAnyH_done (by kernel_rfl) ?_ _
              refine NoPanic.normal ?_
              have hown7 : w6.ownsRow W.heap.size 31 2 (.slice (some ⟨gg, 0, none⟩) ((wo lp a).length + 1) cap) (wo lp a ++ [(⟨a, b⟩ : S31)]).length (flat31 (wo lp a ++ [(⟨a, b⟩ : S31)])) := by rw [flat31_snoc, List.length_append]; exact hown6
              go_wp2
              go_meet
              case rel => exact ⟨rfl, rfl, _, (B_step g1 b6.block _ _ hown7 baseW).1, keepB_step _ b6⟩
            exact AllReadyH.nil
          exact AllReadyH.nil
        exact AllReadyH.nil
      refine AllReadyH.cons (o := { dst := some 26, op := Go.Op.buildSlice 32 1 #[(0, Go.Operand.tmp 25)], type := 32, pos := "paths.go:145", after := #[{ on := 12, ground := Go.Ground.data }], guard := none }) rfl (fun K hK => ?s20) ?m20
      case s20 =>
        go_simp
        refine hK.out _ _ ?h20 (fun hHeld => ?k20)
        case h20 => ((try dsimp only); (first | go_keep | (refine ⟨?_, ?_⟩ <;> first | assumption | go_keep | (rw [World.cell?_setCell_far _ _ _ _ (by simp; omega)]; assumption))))
        clear hK K
        try simp only [Act.put, List.setIfInBounds_toArray, List.set_cons_zero, List.set_cons_succ]
        refine wpAnyH_ready (rs := [7]) (by kernel_rfl) (by simp) ?_
        refine AllReadyH.cons (o := { dst := some 20, op := Go.Op.call { callee := Go.Callee.value (Go.Operand.func 26), args := #[Go.Operand.tmp 17, Go.Operand.tmp 19], argTypes := #[32, 9] }, type := 32, pos := "paths.go:145", after := #[{ on := 4, ground := Go.Ground.data }, { on := 6, ground := Go.Ground.data }], guard := none }) rfl (fun K hK => ?s21) ?m21
        case s21 =>
          go_simp; go_at_call 26; refine (wo_any _ base A1 lp.length c1 lp a rfl ?own h9).mono ?_; (case own => first | with_reducible exact o1d.out | with_reducible exact o1a.out); rintro e w5 ⟨v5, rfl, own5', hb5⟩; have own5 := own_mono (b' := W.heap.size) own5' (by first | exact bd.out.size | exact ba.out.size); have b5 : Below W.heap.size W w5 := (by first | exact bd.out.trans (hb5.mono bd.out.size) | exact ba.out.trans (hb5.mono ba.out.size)); have h5B := (b5.block B lBW).trans g1.hB; have n5B := own_ne own5 h5B (by decide); have n5S := own_ne own5 ((b5.block S (by omega)).trans q2) (by decide); have sz5 := b5.size; clear own5'; have k51 := cellH ((b5.block S (by omega)).trans q2) 1 (.string a) rfl; have k52 := cellH ((b5.block S (by omega)).trans q2) 2 (.string b) rfl; have k50 := cellH h5B 0 (.slice A1 lp.length c1) rfl
          refine hK.out _ _ ?h21 (fun hHeld => ?k21)
          case h21 => ((try dsimp only); (first | go_keep | (refine ⟨?_, ?_⟩ <;> first | assumption | go_keep | (rw [World.cell?_setCell_far _ _ _ _ (by simp; omega)]; assumption))))
          clear hK K
          try simp only [Act.put, List.setIfInBounds_toArray, List.set_cons_zero, List.set_cons_succ]
          refine wpAnyH_ready (rs := [14]) (by kernel_rfl) (by simp) ?_
          refine AllReadyH.cons (o := { dst := some 27, op := Go.Op.call { callee := Go.Callee.builtin Go.Builtin.append, args := #[Go.Operand.tmp 20, Go.Operand.tmp 26], argTypes := #[32, 32] }, type := 32, pos := "paths.go:145", after := #[{ on := 7, ground := Go.Ground.data }, { on := 13, ground := Go.Ground.data }, { on := 7, ground := Go.Ground.chain }], guard := none }) rfl (fun K hK => ?s22) ?m22
          case s22 =>
            first | (refine step_append_lies _ rfl (.tmp 20) (.tmp 26) 32 rfl W.heap.size 31 j0 _ 2 32 Try.underlying32 hj0 jz0 jz1 jz2 rfl (by omega) v5 (wo lp a).length (flat31 (wo lp a)) rfl ?own ⟨w5.heap.size, 0, none⟩ 1 1 [.string a, .string b] rfl rfl ?news (by simp [Value.oneCell']) (by omega) (by unfold maxLen; omega) (by omega) ?base _ rfl ?_; (case own => exact own5.alloc _); (case news => exact World.news_of_block (cs := #[.string a, .string b]) (t := 31) (fr := (0, 0)) (MapKept.heap_alloc w5 _).1); (case base => simp; omega); intro gg cap w6 hown6 hgrow hat hlt6; have b6 := (b5.alloc sz5 (.cells #[.string a, .string b] 31)).grown hgrow (by simp; omega) (fun j hj => own_base own5 j hj); have h6B := (b6.block B lBW).trans g1.hB; have x6 := cellH h6B 0 (.slice A1 lp.length c1) rfl; have y6 := frozenH h6B 0; have k61 := cellH ((b6.block S (by omega)).trans q2) 1 (.string a) rfl; have k62 := cellH ((b6.block S (by omega)).trans q2) 2 (.string b) rfl) | (refine step_append_lies _ rfl (.tmp 20) (.tmp 26) 32 rfl W.heap.size 31 j0 _ 2 32 Try.underlying32 hj0 jz0 jz1 jz2 rfl (by omega) v5 (wo lp a).length (flat31 (wo lp a)) rfl ?own ⟨W.heap.size, 0, none⟩ 1 1 [.string a, .string b] rfl rfl ?news (by simp [Value.oneCell']) (by omega) (by unfold maxLen; omega) (by omega) ?base _ rfl ?_; (case own => exact own5); (case news => exact World.news_of_block (cs := #[.string a, .string b]) (t := 31) (fr := (0, 0)) ((hb5.block _ (ltH q1d.out)).trans q1d.out)); (case base => exact sz5); intro gg cap w6 hown6 hgrow hat hlt6; have b6 := b5.grown hgrow sz5 (fun j hj => own_base own5 j hj); have h6B := (b6.block B lBW).trans g1.hB; have x6 := cellH h6B 0 (.slice A1 lp.length c1) rfl; have y6 := frozenH h6B 0; have k61 := cellH ((b6.block S (by omega)).trans q2) 1 (.string a) rfl; have k62 := cellH ((b6.block S (by omega)).trans q2) 2 (.string b) rfl)
            refine hK.out _ _ ?h22 (fun hHeld => ?k22)
            case h22 => ((try dsimp only); (first | go_keep | (refine ⟨?_, ?_⟩ <;> first | assumption | go_keep | (rw [World.cell?_setCell_far _ _ _ _ (by simp; omega)]; assumption))))
            clear hK K
            try simp only [Act.put, List.setIfInBounds_toArray, List.set_cons_zero, List.set_cons_succ]
            refine wpAnyH_take (i := 15) (oi := { dst := some 28, op := Go.Op.nilCheck (Go.Operand.tmp 13), type := 0, pos := "paths.go:145", after := #[{ on := 0, ground := Go.Ground.data }, { on := 0, ground := Go.Ground.phase }, { on := 1, ground := Go.Ground.phase }, { on := 2, ground := Go.Ground.phase }, { on := 3, ground := Go.Ground.phase }, { on := 4, ground := Go.Ground.phase }, { on := 5, ground := Go.Ground.phase }, { on := 6, ground := Go.Ground.phase }, { on := 7, ground := Go.Ground.phase }, { on := 8, ground := Go.Ground.phase }, { on := 9, ground := Go.Ground.phase }, { on := 10, ground := Go.Ground.phase }, { on := 11, ground := Go.Ground.phase }, { on := 12, ground := Go.Ground.phase }, { on := 13, ground := Go.Ground.phase }, { on := 14, ground := Go.Ground.phase }], guard := none }) (v := ?v23) rfl (by kernel_rfl) (by kernel_rfl) (by kernel_rfl) (fun _ _ _ h => h) (Or.inl ⟨by rfl, ?y23⟩) (by assumption) ?r23
            case y23 => (intro w hSw; (try dsimp only at hSw); first | (go_simp; done) | (go_simp; with_reducible rfl))
            try simp only [Act.put, List.setIfInBounds_toArray, List.set_cons_zero, List.set_cons_succ]
            refine wpAnyH_take (i := 16) (oi := { dst := some 29, op := Go.Op.fieldAddr 38 (Go.Operand.tmp 28) 0, type := 0, pos := "paths.go:145", after := #[{ on := 15, ground := Go.Ground.data }, { on := 0, ground := Go.Ground.phase }, { on := 1, ground := Go.Ground.phase }, { on := 2, ground := Go.Ground.phase }, { on := 3, ground := Go.Ground.phase }, { on := 4, ground := Go.Ground.phase }, { on := 5, ground := Go.Ground.phase }, { on := 6, ground := Go.Ground.phase }, { on := 7, ground := Go.Ground.phase }, { on := 8, ground := Go.Ground.phase }, { on := 9, ground := Go.Ground.phase }, { on := 10, ground := Go.Ground.phase }, { on := 11, ground := Go.Ground.phase }, { on := 12, ground := Go.Ground.phase }, { on := 13, ground := Go.Ground.phase }, { on := 14, ground := Go.Ground.phase }], guard := none }) (v := ?v24) rfl (by kernel_rfl) (by kernel_rfl) (by kernel_rfl) (fun _ _ _ h => h) (Or.inl ⟨by rfl, ?y24⟩) (by assumption) ?r24
            case y24 => (intro w hSw; (try dsimp only at hSw); first | (go_simp; done) | (go_simp; with_reducible rfl))
            try simp only [Act.put, List.setIfInBounds_toArray, List.set_cons_zero, List.set_cons_succ]
            refine wpAnyH_ready (rs := [17]) (by kernel_rfl) (by simp) ?_
            refine AllReadyH.cons (o := { dst := none, op := Go.Op.store 32 (Go.Operand.tmp 29) (Go.Operand.tmp 27), type := 0, pos := "paths.go:145", after := #[{ on := 16, ground := Go.Ground.data }, { on := 14, ground := Go.Ground.data }, { on := 14, ground := Go.Ground.chain }, { on := 0, ground := Go.Ground.phase }, { on := 1, ground := Go.Ground.phase }, { on := 2, ground := Go.Ground.phase }, { on := 3, ground := Go.Ground.phase }, { on := 4, ground := Go.Ground.phase }, { on := 5, ground := Go.Ground.phase }, { on := 6, ground := Go.Ground.phase }, { on := 7, ground := Go.Ground.phase }, { on := 8, ground := Go.Ground.phase }, { on := 9, ground := Go.Ground.phase }, { on := 10, ground := Go.Ground.phase }, { on := 11, ground := Go.Ground.phase }, { on := 12, ground := Go.Ground.phase }, { on := 13, ground := Go.Ground.phase }, { on := 14, ground := Go.Ground.phase }], guard := none }) rfl (fun K hK => ?s25) ?m25
            case s25 =>
              go_simp
              refine hK.out _ _ ?h25 (fun hHeld => ?k25)
              case h25 => ((try dsimp only); (first | go_keep | (refine ⟨?_, ?_⟩ <;> first | assumption | go_keep | (rw [World.cell?_setCell_far _ _ _ _ (by simp; omega)]; assumption))))
              clear hK K
              try simp only [Act.put, List.setIfInBounds_toArray, List.set_cons_zero, List.set_cons_succ]
              refine wpAnyH_done (by kernel_rfl) ?_ _
              refine NoPanic.normal ?_
              have hown7 : w6.ownsRow W.heap.size 31 2 (.slice (some ⟨gg, 0, none⟩) ((wo lp a).length + 1) cap) (wo lp a ++ [(⟨a, b⟩ : S31)]).length (flat31 (wo lp a ++ [(⟨a, b⟩ : S31)])) := by rw [flat31_snoc, List.length_append]; exact hown6
              go_wp2
              go_meet
              case rel => exact ⟨rfl, rfl, _, (B_step g1 b6.block _ _ hown7 baseW).1, keepB_step _ b6⟩
            exact AllReadyH.nil
          exact AllReadyH.nil
        exact AllReadyH.nil
      exact AllReadyH.nil
    refine AllReadyH.cons (o := { dst := some 26, op := Go.Op.buildSlice 32 1 #[(0, Go.Operand.tmp 25)], type := 32, pos := "paths.go:145", after := #[{ on := 12, ground := Go.Ground.data }], guard := none }) rfl (fun K hK => ?s26) ?m26
    case s26 =>
      go_simp
      refine hK.out _ _ ?h26 (fun hHeld => ?k26)
      case h26 => ((try dsimp only); (first | go_keep | (refine ⟨?_, ?_⟩ <;> first | assumption | go_keep | (rw [World.cell?_setCell_far _ _ _ _ (by simp; omega)]; assumption))))
      clear hK K
      try simp only [Act.put, List.setIfInBounds_toArray, List.set_cons_zero, List.set_cons_succ]
      refine wpAnyH_ready (rs := [4]) (by kernel_rfl) (by simp) ?_
      refine AllReadyH.cons (o := { dst := some 17, op := Go.Op.load 32 (Go.Operand.tmp 16), type := 32, pos := "paths.go:145", after := #[{ on := 3, ground := Go.Ground.data }], guard := none }) rfl (fun K hK => ?s27) ?m27
      case s27 =>
        go_simp
        refine hK.out _ _ ?h27 (fun hHeld => ?k27)
        case h27 => ((try dsimp only); (first | go_keep | (refine ⟨?_, ?_⟩ <;> first | assumption | go_keep | (rw [World.cell?_setCell_far _ _ _ _ (by simp; omega)]; assumption))))
        clear hK K
        try simp only [Act.put, List.setIfInBounds_toArray, List.set_cons_zero, List.set_cons_succ]
        refine wpAnyH_ready (rs := [7]) (by kernel_rfl) (by simp) ?_
        refine AllReadyH.cons (o := { dst := some 20, op := Go.Op.call { callee := Go.Callee.value (Go.Operand.func 26), args := #[Go.Operand.tmp 17, Go.Operand.tmp 19], argTypes := #[32, 9] }, type := 32, pos := "paths.go:145", after := #[{ on := 4, ground := Go.Ground.data }, { on := 6, ground := Go.Ground.data }], guard := none }) rfl (fun K hK => ?s28) ?m28
        case s28 =>
          go_simp; go_at_call 26; refine (wo_any _ base A1 lp.length c1 lp a rfl ?own h9).mono ?_; (case own => first | with_reducible exact o1d.out | with_reducible exact o1a.out); rintro e w5 ⟨v5, rfl, own5', hb5⟩; have own5 := own_mono (b' := W.heap.size) own5' (by first | exact bd.out.size | exact ba.out.size); have b5 : Below W.heap.size W w5 := (by first | exact bd.out.trans (hb5.mono bd.out.size) | exact ba.out.trans (hb5.mono ba.out.size)); have h5B := (b5.block B lBW).trans g1.hB; have n5B := own_ne own5 h5B (by decide); have n5S := own_ne own5 ((b5.block S (by omega)).trans q2) (by decide); have sz5 := b5.size; clear own5'; have k51 := cellH ((b5.block S (by omega)).trans q2) 1 (.string a) rfl; have k52 := cellH ((b5.block S (by omega)).trans q2) 2 (.string b) rfl; have k50 := cellH h5B 0 (.slice A1 lp.length c1) rfl
          refine hK.out _ _ ?h28 (fun hHeld => ?k28)
          case h28 => ((try dsimp only); (first | go_keep | (refine ⟨?_, ?_⟩ <;> first | assumption | go_keep | (rw [World.cell?_setCell_far _ _ _ _ (by simp; omega)]; assumption))))
          clear hK K
          try simp only [Act.put, List.setIfInBounds_toArray, List.set_cons_zero, List.set_cons_succ]
          refine wpAnyH_ready (rs := [14]) (by kernel_rfl) (by simp) ?_
          refine AllReadyH.cons (o := { dst := some 27, op := Go.Op.call { callee := Go.Callee.builtin Go.Builtin.append, args := #[Go.Operand.tmp 20, Go.Operand.tmp 26], argTypes := #[32, 32] }, type := 32, pos := "paths.go:145", after := #[{ on := 7, ground := Go.Ground.data }, { on := 13, ground := Go.Ground.data }, { on := 7, ground := Go.Ground.chain }], guard := none }) rfl (fun K hK => ?s29) ?m29
          case s29 =>
            first | (refine step_append_lies _ rfl (.tmp 20) (.tmp 26) 32 rfl W.heap.size 31 j0 _ 2 32 Try.underlying32 hj0 jz0 jz1 jz2 rfl (by omega) v5 (wo lp a).length (flat31 (wo lp a)) rfl ?own ⟨w5.heap.size, 0, none⟩ 1 1 [.string a, .string b] rfl rfl ?news (by simp [Value.oneCell']) (by omega) (by unfold maxLen; omega) (by omega) ?base _ rfl ?_; (case own => exact own5.alloc _); (case news => exact World.news_of_block (cs := #[.string a, .string b]) (t := 31) (fr := (0, 0)) (MapKept.heap_alloc w5 _).1); (case base => simp; omega); intro gg cap w6 hown6 hgrow hat hlt6; have b6 := (b5.alloc sz5 (.cells #[.string a, .string b] 31)).grown hgrow (by simp; omega) (fun j hj => own_base own5 j hj); have h6B := (b6.block B lBW).trans g1.hB; have x6 := cellH h6B 0 (.slice A1 lp.length c1) rfl; have y6 := frozenH h6B 0; have k61 := cellH ((b6.block S (by omega)).trans q2) 1 (.string a) rfl; have k62 := cellH ((b6.block S (by omega)).trans q2) 2 (.string b) rfl) | (refine step_append_lies _ rfl (.tmp 20) (.tmp 26) 32 rfl W.heap.size 31 j0 _ 2 32 Try.underlying32 hj0 jz0 jz1 jz2 rfl (by omega) v5 (wo lp a).length (flat31 (wo lp a)) rfl ?own ⟨W.heap.size, 0, none⟩ 1 1 [.string a, .string b] rfl rfl ?news (by simp [Value.oneCell']) (by omega) (by unfold maxLen; omega) (by omega) ?base _ rfl ?_; (case own => exact own5); (case news => exact World.news_of_block (cs := #[.string a, .string b]) (t := 31) (fr := (0, 0)) ((hb5.block _ (ltH q1d.out)).trans q1d.out)); (case base => exact sz5); intro gg cap w6 hown6 hgrow hat hlt6; have b6 := b5.grown hgrow sz5 (fun j hj => own_base own5 j hj); have h6B := (b6.block B lBW).trans g1.hB; have x6 := cellH h6B 0 (.slice A1 lp.length c1) rfl; have y6 := frozenH h6B 0; have k61 := cellH ((b6.block S (by omega)).trans q2) 1 (.string a) rfl; have k62 := cellH ((b6.block S (by omega)).trans q2) 2 (.string b) rfl)
            refine hK.out _ _ ?h29 (fun hHeld => ?k29)
            case h29 => ((try dsimp only); (first | go_keep | (refine ⟨?_, ?_⟩ <;> first | assumption | go_keep | (rw [World.cell?_setCell_far _ _ _ _ (by simp; omega)]; assumption))))
            clear hK K
            try simp only [Act.put, List.setIfInBounds_toArray, List.set_cons_zero, List.set_cons_succ]
            refine wpAnyH_take (i := 15) (oi := { dst := some 28, op := Go.Op.nilCheck (Go.Operand.tmp 13), type := 0, pos := "paths.go:145", after := #[{ on := 0, ground := Go.Ground.data }, { on := 0, ground := Go.Ground.phase }, { on := 1, ground := Go.Ground.phase }, { on := 2, ground := Go.Ground.phase }, { on := 3, ground := Go.Ground.phase }, { on := 4, ground := Go.Ground.phase }, { on := 5, ground := Go.Ground.phase }, { on := 6, ground := Go.Ground.phase }, { on := 7, ground := Go.Ground.phase }, { on := 8, ground := Go.Ground.phase }, { on := 9, ground := Go.Ground.phase }, { on := 10, ground := Go.Ground.phase }, { on := 11, ground := Go.Ground.phase }, { on := 12, ground := Go.Ground.phase }, { on := 13, ground := Go.Ground.phase }, { on := 14, ground := Go.Ground.phase }], guard := none }) (v := ?v30) rfl (by kernel_rfl) (by kernel_rfl) (by kernel_rfl) (fun _ _ _ h => h) (Or.inl ⟨by rfl, ?y30⟩) (by assumption) ?r30
            case y30 => (intro w hSw; (try dsimp only at hSw); first | (go_simp; done) | (go_simp; with_reducible rfl))
            try simp only [Act.put, List.setIfInBounds_toArray, List.set_cons_zero, List.set_cons_succ]
            refine wpAnyH_take (i := 16) (oi := { dst := some 29, op := Go.Op.fieldAddr 38 (Go.Operand.tmp 28) 0, type := 0, pos := "paths.go:145", after := #[{ on := 15, ground := Go.Ground.data }, { on := 0, ground := Go.Ground.phase }, { on := 1, ground := Go.Ground.phase }, { on := 2, ground := Go.Ground.phase }, { on := 3, ground := Go.Ground.phase }, { on := 4, ground := Go.Ground.phase }, { on := 5, ground := Go.Ground.phase }, { on := 6, ground := Go.Ground.phase }, { on := 7, ground := Go.Ground.phase }, { on := 8, ground := Go.Ground.phase }, { on := 9, ground := Go.Ground.phase }, { on := 10, ground := Go.Ground.phase }, { on := 11, ground := Go.Ground.phase }, { on := 12, ground := Go.Ground.phase }, { on := 13, ground := Go.Ground.phase }, { on := 14, ground := Go.Ground.phase }], guard := none }) (v := ?v31) rfl (by kernel_rfl) (by kernel_rfl) (by kernel_rfl) (fun _ _ _ h => h) (Or.inl ⟨by rfl, ?y31⟩) (by assumption) ?r31
            case y31 => (intro w hSw; (try dsimp only at hSw); first | (go_simp; done) | (go_simp; with_reducible rfl))
            try simp only [Act.put, List.setIfInBounds_toArray, List.set_cons_zero, List.set_cons_succ]
            refine wpAnyH_ready (rs := [17]) (by kernel_rfl) (by simp) ?_
            refine AllReadyH.cons (o := { dst := none, op := Go.Op.store 32 (Go.Operand.tmp 29) (Go.Operand.tmp 27), type := 0, pos := "paths.go:145", after := #[{ on := 16, ground := Go.Ground.data }, { on := 14, ground := Go.Ground.data }, { on := 14, ground := Go.Ground.chain }, { on := 0, ground := Go.Ground.phase }, { on := 1, ground := Go.Ground.phase }, { on := 2, ground := Go.Ground.phase }, { on := 3, ground := Go.Ground.phase }, { on := 4, ground := Go.Ground.phase }, { on := 5, ground := Go.Ground.phase }, { on := 6, ground := Go.Ground.phase }, { on := 7, ground := Go.Ground.phase }, { on := 8, ground := Go.Ground.phase }, { on := 9, ground := Go.Ground.phase }, { on := 10, ground := Go.Ground.phase }, { on := 11, ground := Go.Ground.phase }, { on := 12, ground := Go.Ground.phase }, { on := 13, ground := Go.Ground.phase }, { on := 14, ground := Go.Ground.phase }], guard := none }) rfl (fun K hK => ?s32) ?m32
            case s32 =>
              go_simp
              refine hK.out _ _ ?h32 (fun hHeld => ?k32)
              case h32 => ((try dsimp only); (first | go_keep | (refine ⟨?_, ?_⟩ <;> first | assumption | go_keep | (rw [World.cell?_setCell_far _ _ _ _ (by simp; omega)]; assumption))))
              clear hK K
              try simp only [Act.put, List.setIfInBounds_toArray, List.set_cons_zero, List.set_cons_succ]
              refine wpAnyH_done (by kernel_rfl) ?_ _
              refine NoPanic.normal ?_
              have hown7 : w6.ownsRow W.heap.size 31 2 (.slice (some ⟨gg, 0, none⟩) ((wo lp a).length + 1) cap) (wo lp a ++ [(⟨a, b⟩ : S31)]).length (flat31 (wo lp a ++ [(⟨a, b⟩ : S31)])) := by rw [flat31_snoc, List.length_append]; exact hown6
              go_wp2
              go_meet
              case rel => exact ⟨rfl, rfl, _, (B_step g1 b6.block _ _ hown7 baseW).1, keepB_step _ b6⟩
            exact AllReadyH.nil
          exact AllReadyH.nil
        exact AllReadyH.nil
      exact AllReadyH.nil
    exact AllReadyH.nil
  case rest =>
    obtain ⟨rfl, rfl, v1', hD, hK⟩ := hcut
    replace q2 := (hK.block S (by omega) (by omega)).trans q2
    replace q3 := (hK.block (S + 1) lW (by omega)).trans q3
    replace bl2 : Keep (fun k => k ≠ B) w wc := (Keep.ofBelow bl2 (fun k hk _ => hk)).trans hK
    have szc := hK.size
    replace lW : S + 1 < wc.heap.size := ltH q3
    replace baseW : base ≤ wc.heap.size := by omega
    replace lBW : B < wc.heap.size := by omega
    clear g1 c0 c1' f0 f1 s0 s1 s2 hK
    obtain ⟨W1, hW1⟩ : ∃ W1, W = W1 := ⟨_, rfl⟩
    subst hW1
    have g1 := hD
    clear hD
    obtain ⟨A2, c2, e1⟩ := own_slice g1.o2
    subst e1
    have c0 := cellH g1.hB 0 _ rfl
    have c1' := cellH g1.hB 1 _ rfl
    have f0 := frozenH g1.hB 0
    have f1 := frozenH g1.hB 1
    have s0 := cellH q2 0 _ rfl
    have s1 := cellH q2 1 _ rfl
    have s2 := cellH q2 2 _ rfl
    simp only [List.getElem_toArray, List.getElem_cons_succ, List.getElem_cons_zero] at c0 c1' s0 s1 s2
    clear szc
    go_upto_region 4 with fail
    have o1d : Hid (wc.drew.ownsRow base 31 2 (.slice A2 lb.length c2) lb.length (flat31 lb)) := Lib.hid g1.o2.drew
    have o1a : Hid ((wc.alloc (.cells #[.string b, .string a] 31)).drew.ownsRow base 31 2 (.slice A2 lb.length c2) lb.length (flat31 lb)) := Lib.hid (g1.o2.alloc _).drew
    have q1d : Hid (((wc.alloc (.cells #[.string b, .string a] 31)).drew).heap[wc.heap.size]? = some (.cells #[.string b, .string a] 31 (0, 0))) := Lib.hid ((MapKept.heap_alloc wc _).1)
    have bd : Hid (Below wc.heap.size wc wc.drew) := Lib.hid (below_drew1 (Below.refl _ _))
    have ba : Hid (Below wc.heap.size wc (wc.alloc (.cells #[.string b, .string a] 31)).drew) := Lib.hid (below_drew1 ((Below.refl _ _).alloc (Nat.le_refl _) _))
    have h9 : lb.length ≤ 1000000 := by omega
    have hwo := wo_le lb b
    refine wp_region_noPanic ?_
    refine wp_region_held_drew (S := (fun w' => w'.cell? ⟨S, 1, none⟩ = some (.string a) ∧ w'.cell? ⟨S, 2, none⟩ = some (.string b))) (by kernel_rfl) ?h33 (fun hHeld => ?k33)
    case h33 => ((try dsimp only); (first | go_keep | (refine ⟨?_, ?_⟩ <;> first | assumption | go_keep | (rw [World.cell?_setCell_far _ _ _ _ (by simp; omega)]; assumption))))
    refine wpAnyH_take (i := 0) (oi := { dst := some 30, op := Go.Op.move (Go.Operand.tmp 0), type := 50, pos := "paths.go:146", after := #[], guard := none }) (v := ?v34) rfl (by kernel_rfl) (by kernel_rfl) (by kernel_rfl) (fun _ _ _ h => h) (Or.inl ⟨by rfl, ?y34⟩) (by assumption) ?r34
    case y34 => (intro w hSw; (try dsimp only at hSw); first | (go_simp; done) | (go_simp; with_reducible rfl))
    try simp only [Act.put, List.setIfInBounds_toArray, List.set_cons_zero, List.set_cons_succ]
    refine wpAnyH_take (i := 1) (oi := { dst := some 31, op := Go.Op.move (Go.Operand.tmp 0), type := 50, pos := "paths.go:146", after := #[], guard := none }) (v := ?v35) rfl (by kernel_rfl) (by kernel_rfl) (by kernel_rfl) (fun _ _ _ h => h) (Or.inl ⟨by rfl, ?y35⟩) (by assumption) ?r35
    case y35 => (intro w hSw; (try dsimp only at hSw); first | (go_simp; done) | (go_simp; with_reducible rfl))
    try simp only [Act.put, List.setIfInBounds_toArray, List.set_cons_zero, List.set_cons_succ]
    refine wpAnyH_take (i := 2) (oi := { dst := some 32, op := Go.Op.nilCheck (Go.Operand.tmp 31), type := 0, pos := "paths.go:146", after := #[{ on := 1, ground := Go.Ground.data }], guard := none }) (v := ?v36) rfl (by kernel_rfl) (by kernel_rfl) (by kernel_rfl) (fun _ _ _ h => h) (Or.inl ⟨by rfl, ?y36⟩) (by assumption) ?r36
    case y36 => (intro w hSw; (try dsimp only at hSw); first | (go_simp; done) | (go_simp; with_reducible rfl))
    try simp only [Act.put, List.setIfInBounds_toArray, List.set_cons_zero, List.set_cons_succ]
    refine wpAnyH_take (i := 3) (oi := { dst := some 33, op := Go.Op.fieldAddr 38 (Go.Operand.tmp 32) 1, type := 0, pos := "paths.go:146", after := #[{ on := 2, ground := Go.Ground.data }], guard := none }) (v := ?v37) rfl (by kernel_rfl) (by kernel_rfl) (by kernel_rfl) (fun _ _ _ h => h) (Or.inl ⟨by rfl, ?y37⟩) (by assumption) ?r37
    case y37 => (intro w hSw; (try dsimp only at hSw); first | (go_simp; done) | (go_simp; with_reducible rfl))
    try simp only [Act.put, List.setIfInBounds_toArray, List.set_cons_zero, List.set_cons_succ]
    refine wpAnyH_take (i := 5) (oi := { dst := some 35, op := Go.Op.fieldAddr 34 (Go.Operand.tmp 4) 2, type := 0, pos := "paths.go:146", after := #[], guard := none }) (v := ?v38) rfl (by kernel_rfl) (by kernel_rfl) (by kernel_rfl) (fun _ _ _ h => h) (Or.inl ⟨by rfl, ?y38⟩) (by assumption) ?r38
    case y38 => (intro w hSw; (try dsimp only at hSw); first | (go_simp; done) | (go_simp; with_reducible rfl))
    try simp only [Act.put, List.setIfInBounds_toArray, List.set_cons_zero, List.set_cons_succ]
    refine wpAnyH_take (i := 6) (oi := { dst := some 36, op := Go.Op.load 9 (Go.Operand.tmp 35), type := 9, pos := "paths.go:146", after := #[{ on := 5, ground := Go.Ground.data }], guard := none }) (v := ?v39) rfl (by kernel_rfl) (by kernel_rfl) (by kernel_rfl) (fun _ _ _ h => h) (Or.inl ⟨by rfl, ?y39⟩) (by assumption) ?r39
    case y39 => (intro w hSw; (try dsimp only at hSw); first | (go_simp; done) | (go_simp; with_reducible rfl))
    try simp only [Act.put, List.setIfInBounds_toArray, List.set_cons_zero, List.set_cons_succ]
    refine wpAnyH_take (i := 8) (oi := { dst := some 38, op := Go.Op.fieldAddr 34 (Go.Operand.tmp 4) 2, type := 0, pos := "paths.go:146", after := #[], guard := none }) (v := ?v40) rfl (by kernel_rfl) (by kernel_rfl) (by kernel_rfl) (fun _ _ _ h => h) (Or.inl ⟨by rfl, ?y40⟩) (by assumption) ?r40
    case y40 => (intro w hSw; (try dsimp only at hSw); first | (go_simp; done) | (go_simp; with_reducible rfl))
    try simp only [Act.put, List.setIfInBounds_toArray, List.set_cons_zero, List.set_cons_succ]
    refine wpAnyH_take (i := 9) (oi := { dst := some 39, op := Go.Op.load 9 (Go.Operand.tmp 38), type := 9, pos := "paths.go:146", after := #[{ on := 8, ground := Go.Ground.data }], guard := none }) (v := ?v41) rfl (by kernel_rfl) (by kernel_rfl) (by kernel_rfl) (fun _ _ _ h => h) (Or.inl ⟨by rfl, ?y41⟩) (by assumption) ?r41
    case y41 => (intro w hSw; (try dsimp only at hSw); first | (go_simp; done) | (go_simp; with_reducible rfl))
    try simp only [Act.put, List.setIfInBounds_toArray, List.set_cons_zero, List.set_cons_succ]
    refine wpAnyH_take (i := 10) (oi := { dst := some 40, op := Go.Op.fieldAddr 34 (Go.Operand.tmp 4) 1, type := 0, pos := "paths.go:146", after := #[], guard := none }) (v := ?v42) rfl (by kernel_rfl) (by kernel_rfl) (by kernel_rfl) (fun _ _ _ h => h) (Or.inl ⟨by rfl, ?y42⟩) (by assumption) ?r42
    case y42 => (intro w hSw; (try dsimp only at hSw); first | (go_simp; done) | (go_simp; with_reducible rfl))
    try simp only [Act.put, List.setIfInBounds_toArray, List.set_cons_zero, List.set_cons_succ]
    refine wpAnyH_take (i := 11) (oi := { dst := some 41, op := Go.Op.load 9 (Go.Operand.tmp 40), type := 9, pos := "paths.go:146", after := #[{ on := 10, ground := Go.Ground.data }], guard := none }) (v := ?v43) rfl (by kernel_rfl) (by kernel_rfl) (by kernel_rfl) (fun _ _ _ h => h) (Or.inl ⟨by rfl, ?y43⟩) (by assumption) ?r43
    case y43 => (intro w hSw; (try dsimp only at hSw); first | (go_simp; done) | (go_simp; with_reducible rfl))
    try simp only [Act.put, List.setIfInBounds_toArray, List.set_cons_zero, List.set_cons_succ]
    refine wpAnyH_take (i := 12) (oi := { dst := some 42, op := Go.Op.build 31 #[(0, Go.Operand.tmp 39), (1, Go.Operand.tmp 41)], type := 31, pos := "paths.go:146", after := #[{ on := 9, ground := Go.Ground.data }, { on := 11, ground := Go.Ground.data }], guard := none }) (v := ?v44) rfl (by kernel_rfl) (by kernel_rfl) (by kernel_rfl) (fun _ _ _ h => h) (Or.inl ⟨by rfl, ?y44⟩) (by assumption) ?r44
    case y44 => (intro w hSw; (try dsimp only at hSw); first | (go_simp; done) | (go_simp; with_reducible rfl))
    try simp only [Act.put, List.setIfInBounds_toArray, List.set_cons_zero, List.set_cons_succ]
    refine wpAnyH_ready (rs := [4, 13]) (by kernel_rfl) (by simp) ?_
    refine AllReadyH.cons (o := { dst := some 34, op := Go.Op.load 32 (Go.Operand.tmp 33), type := 32, pos := "paths.go:146", after := #[{ on := 3, ground := Go.Ground.data }], guard := none }) rfl (fun K hK => ?s45) ?m45
    case s45 =>
      go_simp
      refine hK.out _ _ ?h45 (fun hHeld => ?k45)
      case h45 => ((try dsimp only); (first | go_keep | (refine ⟨?_, ?_⟩ <;> first | assumption | go_keep | (rw [World.cell?_setCell_far _ _ _ _ (by simp; omega)]; assumption))))
      clear hK K
      try simp only [Act.put, List.setIfInBounds_toArray, List.set_cons_zero, List.set_cons_succ]
      refine wpAnyH_ready (rs := [7, 13]) (by kernel_rfl) (by simp) ?_
      refine AllReadyH.cons (o := { dst := some 37, op := Go.Op.call { callee := Go.Callee.value (Go.Operand.func 26), args := #[Go.Operand.tmp 34, Go.Operand.tmp 36], argTypes := #[32, 9] }, type := 32, pos := "paths.go:146", after := #[{ on := 4, ground := Go.Ground.data }, { on := 6, ground := Go.Ground.data }], guard := none }) rfl (fun K hK => ?s46) ?m46
      case s46 =>
        go_simp; go_at_call 26; refine (wo_any _ base A2 lb.length c2 lb b rfl ?own h9).mono ?_; (case own => first | with_reducible exact o1d.out | with_reducible exact o1a.out); rintro e w5 ⟨v5, rfl, own5', hb5⟩; have own5 := own_mono (b' := wc.heap.size) own5' (by first | exact bd.out.size | exact ba.out.size); have b5 : Below wc.heap.size wc w5 := (by first | exact bd.out.trans (hb5.mono bd.out.size) | exact ba.out.trans (hb5.mono ba.out.size)); have h5B := (b5.block B lBW).trans g1.hB; have n5B := own_ne own5 h5B (by decide); have n5S := own_ne own5 ((b5.block S (by omega)).trans q2) (by decide); have sz5 := b5.size; clear own5'; have k51 := cellH ((b5.block S (by omega)).trans q2) 1 (.string a) rfl; have k52 := cellH ((b5.block S (by omega)).trans q2) 2 (.string b) rfl; have k50 := cellH h5B 1 (.slice A2 lb.length c2) rfl
        refine hK.out _ _ ?h46 (fun hHeld => ?k46)
        case h46 => ((try dsimp only); (first | go_keep | (refine ⟨?_, ?_⟩ <;> first | assumption | go_keep | (rw [World.cell?_setCell_far _ _ _ _ (by simp; omega)]; assumption))))
        clear hK K
        try simp only [Act.put, List.setIfInBounds_toArray, List.set_cons_zero, List.set_cons_succ]
        refine wpAnyH_ready (rs := [13]) (by kernel_rfl) (by simp) ?_
        refine AllReadyH.cons (o := { dst := some 43, op := Go.Op.buildSlice 32 1 #[(0, Go.Operand.tmp 42)], type := 32, pos := "paths.go:146", after := #[{ on := 12, ground := Go.Ground.data }], guard := none }) rfl (fun K hK => ?s47) ?m47
        case s47 =>
          go_simp
          refine hK.out _ _ ?h47 (fun hHeld => ?k47)
          case h47 => ((try dsimp only); (first | go_keep | (refine ⟨?_, ?_⟩ <;> first | assumption | go_keep | (rw [World.cell?_setCell_far _ _ _ _ (by simp; omega)]; assumption))))
          clear hK K
          try simp only [Act.put, List.setIfInBounds_toArray, List.set_cons_zero, List.set_cons_succ]
          refine wpAnyH_ready (rs := [14]) (by kernel_rfl) (by simp) ?_
          refine AllReadyH.cons (o := { dst := some 44, op := Go.Op.call { callee := Go.Callee.builtin Go.Builtin.append, args := #[Go.Operand.tmp 37, Go.Operand.tmp 43], argTypes := #[32, 32] }, type := 32, pos := "paths.go:146", after := #[{ on := 7, ground := Go.Ground.data }, { on := 13, ground := Go.Ground.data }, { on := 7, ground := Go.Ground.chain }], guard := none }) rfl (fun K hK => ?s48) ?m48
          case s48 =>
            first | (refine step_append_lies _ rfl (.tmp 37) (.tmp 43) 32 rfl wc.heap.size 31 j0 _ 2 32 Try.underlying32 hj0 jz0 jz1 jz2 rfl (by omega) v5 (wo lb b).length (flat31 (wo lb b)) rfl ?own ⟨w5.heap.size, 0, none⟩ 1 1 [.string b, .string a] rfl rfl ?news (by simp [Value.oneCell']) (by omega) (by unfold maxLen; omega) (by omega) ?base _ rfl ?_; (case own => exact own5.alloc _); (case news => exact World.news_of_block (cs := #[.string b, .string a]) (t := 31) (fr := (0, 0)) (MapKept.heap_alloc w5 _).1); (case base => simp; omega); intro gg cap w6 hown6 hgrow hat hlt6; have b6 := (b5.alloc sz5 (.cells #[.string b, .string a] 31)).grown hgrow (by simp; omega) (fun j hj => own_base own5 j hj); have h6B := (b6.block B lBW).trans g1.hB; have x6 := cellH h6B 1 (.slice A2 lb.length c2) rfl; have y6 := frozenH h6B 1; have k61 := cellH ((b6.block S (by omega)).trans q2) 1 (.string a) rfl; have k62 := cellH ((b6.block S (by omega)).trans q2) 2 (.string b) rfl) | (refine step_append_lies _ rfl (.tmp 37) (.tmp 43) 32 rfl wc.heap.size 31 j0 _ 2 32 Try.underlying32 hj0 jz0 jz1 jz2 rfl (by omega) v5 (wo lb b).length (flat31 (wo lb b)) rfl ?own ⟨wc.heap.size, 0, none⟩ 1 1 [.string b, .string a] rfl rfl ?news (by simp [Value.oneCell']) (by omega) (by unfold maxLen; omega) (by omega) ?base _ rfl ?_; (case own => exact own5); (case news => exact World.news_of_block (cs := #[.string b, .string a]) (t := 31) (fr := (0, 0)) ((hb5.block _ (ltH q1d.out)).trans q1d.out)); (case base => exact sz5); intro gg cap w6 hown6 hgrow hat hlt6; have b6 := b5.grown hgrow sz5 (fun j hj => own_base own5 j hj); have h6B := (b6.block B lBW).trans g1.hB; have x6 := cellH h6B 1 (.slice A2 lb.length c2) rfl; have y6 := frozenH h6B 1; have k61 := cellH ((b6.block S (by omega)).trans q2) 1 (.string a) rfl; have k62 := cellH ((b6.block S (by omega)).trans q2) 2 (.string b) rfl)
            refine hK.out _ _ ?h48 (fun hHeld => ?k48)
            case h48 => ((try dsimp only); (first | go_keep | (refine ⟨?_, ?_⟩ <;> first | assumption | go_keep | (rw [World.cell?_setCell_far _ _ _ _ (by simp; omega)]; assumption))))
            clear hK K
            try simp only [Act.put, List.setIfInBounds_toArray, List.set_cons_zero, List.set_cons_succ]
            refine wpAnyH_take (i := 15) (oi := { dst := some 45, op := Go.Op.nilCheck (Go.Operand.tmp 30), type := 0, pos := "paths.go:146", after := #[{ on := 0, ground := Go.Ground.data }, { on := 0, ground := Go.Ground.phase }, { on := 1, ground := Go.Ground.phase }, { on := 2, ground := Go.Ground.phase }, { on := 3, ground := Go.Ground.phase }, { on := 4, ground := Go.Ground.phase }, { on := 5, ground := Go.Ground.phase }, { on := 6, ground := Go.Ground.phase }, { on := 7, ground := Go.Ground.phase }, { on := 8, ground := Go.Ground.phase }, { on := 9, ground := Go.Ground.phase }, { on := 10, ground := Go.Ground.phase }, { on := 11, ground := Go.Ground.phase }, { on := 12, ground := Go.Ground.phase }, { on := 13, ground := Go.Ground.phase }, { on := 14, ground := Go.Ground.phase }], guard := none }) (v := ?v49) rfl (by kernel_rfl) (by kernel_rfl) (by kernel_rfl) (fun _ _ _ h => h) (Or.inl ⟨by rfl, ?y49⟩) (by assumption) ?r49
            case y49 => (intro w hSw; (try dsimp only at hSw); first | (go_simp; done) | (go_simp; with_reducible rfl))
            try simp only [Act.put, List.setIfInBounds_toArray, List.set_cons_zero, List.set_cons_succ]
            refine wpAnyH_take (i := 16) (oi := { dst := some 46, op := Go.Op.fieldAddr 38 (Go.Operand.tmp 45) 1, type := 0, pos := "paths.go:146", after := #[{ on := 15, ground := Go.Ground.data }, { on := 0, ground := Go.Ground.phase }, { on := 1, ground := Go.Ground.phase }, { on := 2, ground := Go.Ground.phase }, { on := 3, ground := Go.Ground.phase }, { on := 4, ground := Go.Ground.phase }, { on := 5, ground := Go.Ground.phase }, { on := 6, ground := Go.Ground.phase }, { on := 7, ground := Go.Ground.phase }, { on := 8, ground := Go.Ground.phase }, { on := 9, ground := Go.Ground.phase }, { on := 10, ground := Go.Ground.phase }, { on := 11, ground := Go.Ground.phase }, { on := 12, ground := Go.Ground.phase }, { on := 13, ground := Go.Ground.phase }, { on := 14, ground := Go.Ground.phase }], guard := none }) (v := ?v50) rfl (by kernel_rfl) (by kernel_rfl) (by kernel_rfl) (fun _ _ _ h => h) (Or.inl ⟨by rfl, ?y50⟩) (by assumption) ?r50
            case y50 => (intro w hSw; (try dsimp only at hSw); first | (go_simp; done) | (go_simp; with_reducible rfl))
            try simp only [Act.put, List.setIfInBounds_toArray, List.set_cons_zero, List.set_cons_succ]
            refine wpAnyH_ready (rs := [17]) (by kernel_rfl) (by simp) ?_
            refine AllReadyH.cons (o := { dst := none, op := Go.Op.store 32 (Go.Operand.tmp 46) (Go.Operand.tmp 44), type := 0, pos := "paths.go:146", after := #[{ on := 16, ground := Go.Ground.data }, { on := 14, ground := Go.Ground.data }, { on := 14, ground := Go.Ground.chain }, { on := 0, ground := Go.Ground.phase }, { on := 1, ground := Go.Ground.phase }, { on := 2, ground := Go.Ground.phase }, { on := 3, ground := Go.Ground.phase }, { on := 4, ground := Go.Ground.phase }, { on := 5, ground := Go.Ground.phase }, { on := 6, ground := Go.Ground.phase }, { on := 7, ground := Go.Ground.phase }, { on := 8, ground := Go.Ground.phase }, { on := 9, ground := Go.Ground.phase }, { on := 10, ground := Go.Ground.phase }, { on := 11, ground := Go.Ground.phase }, { on := 12, ground := Go.Ground.phase }, { on := 13, ground := Go.Ground.phase }, { on := 14, ground := Go.Ground.phase }], guard := none }) rfl (fun K hK => ?s51) ?m51
            case s51 =>
              go_simp
              refine hK.out _ _ ?h51 (fun hHeld => ?k51)
              case h51 => ((try dsimp only); (first | go_keep | (refine ⟨?_, ?_⟩ <;> first | assumption | go_keep | (rw [World.cell?_setCell_far _ _ _ _ (by simp; omega)]; assumption))))
              clear hK K
              try simp only [Act.put, List.setIfInBounds_toArray, List.set_cons_zero, List.set_cons_succ]
              refine wpAnyH_done (by kernel_rfl) ?_ _
              refine NoPanic.normal ?_
              have hown7 : w6.ownsRow wc.heap.size 31 2 (.slice (some ⟨gg, 0, none⟩) ((wo lb b).length + 1) cap) (wo lb b ++ [(⟨b, a⟩ : S31)]).length (flat31 (wo lb b ++ [(⟨b, a⟩ : S31)])) := by rw [flat31_snoc, List.length_append]; exact hown6
              have hD := (B_step g1 b6.block _ _ hown7 baseW).2
              have hK := keepB_step (B := B) (j := 1) (.slice (some ⟨gg, 0, none⟩) ((wo lb b).length + 1) cap) b6
              replace q3 := (hK.block (S + 1) lW (by omega)).trans q3
              have kk := bl2.trans hK
              obtain ⟨p1, p2, p3⟩ := ans_set (.string ⟨#[]⟩) (.bool false) hD q3 kk hS
              have a0 := cellH q3 0 _ rfl
              have a1 := cellH q3 1 _ rfl
              have u0 := frozenH q3 0
              have u1 := frozenH q3 1
              simp only [List.getElem_toArray, List.getElem_cons_succ, List.getElem_cons_zero] at a0 a1
              clear c0 c1' f0 f1 s0 s1 s2 g1 kk hK
              go_wp2_with fail
              refine bodyPost_ret (res13 (p := S + 1) rfl (cellH p1 0 _ rfl) (cellH p1 1 _ rfl)) rfl ?_
              exact ⟨rfl, _, _, p2, p3⟩
            exact AllReadyH.nil
          exact AllReadyH.nil
        exact AllReadyH.nil
      refine AllReadyH.cons (o := { dst := some 43, op := Go.Op.buildSlice 32 1 #[(0, Go.Operand.tmp 42)], type := 32, pos := "paths.go:146", after := #[{ on := 12, ground := Go.Ground.data }], guard := none }) rfl (fun K hK => ?s52) ?m52
      case s52 =>
        go_simp
        refine hK.out _ _ ?h52 (fun hHeld => ?k52)
        case h52 => ((try dsimp only); (first | go_keep | (refine ⟨?_, ?_⟩ <;> first | assumption | go_keep | (rw [World.cell?_setCell_far _ _ _ _ (by simp; omega)]; assumption))))
        clear hK K
        try simp only [Act.put, List.setIfInBounds_toArray, List.set_cons_zero, List.set_cons_succ]
        refine wpAnyH_ready (rs := [7]) (by kernel_rfl) (by simp) ?_
        refine AllReadyH.cons (o := { dst := some 37, op := Go.Op.call { callee := Go.Callee.value (Go.Operand.func 26), args := #[Go.Operand.tmp 34, Go.Operand.tmp 36], argTypes := #[32, 9] }, type := 32, pos := "paths.go:146", after := #[{ on := 4, ground := Go.Ground.data }, { on := 6, ground := Go.Ground.data }], guard := none }) rfl (fun K hK => ?s53) ?m53
        case s53 =>
          go_simp; go_at_call 26; refine (wo_any _ base A2 lb.length c2 lb b rfl ?own h9).mono ?_; (case own => first | with_reducible exact o1d.out | with_reducible exact o1a.out); rintro e w5 ⟨v5, rfl, own5', hb5⟩; have own5 := own_mono (b' := wc.heap.size) own5' (by first | exact bd.out.size | exact ba.out.size); have b5 : Below wc.heap.size wc w5 := (by first | exact bd.out.trans (hb5.mono bd.out.size) | exact ba.out.trans (hb5.mono ba.out.size)); have h5B := (b5.block B lBW).trans g1.hB; have n5B := own_ne own5 h5B (by decide); have n5S := own_ne own5 ((b5.block S (by omega)).trans q2) (by decide); have sz5 := b5.size; clear own5'; have k51 := cellH ((b5.block S (by omega)).trans q2) 1 (.string a) rfl; have k52 := cellH ((b5.block S (by omega)).trans q2) 2 (.string b) rfl; have k50 := cellH h5B 1 (.slice A2 lb.length c2) rfl
          refine hK.out _ _ ?h53 (fun hHeld => ?k53)
          case h53 => ((try dsimp only); (first | go_keep | (refine ⟨?_, ?_⟩ <;> first | assumption | go_keep | (rw [World.cell?_setCell_far _ _ _ _ (by simp; omega)]; assumption))))
          clear hK K
          try simp only [Act.put, List.setIfInBounds_toArray, List.set_cons_zero, List.set_cons_succ]
          refine wpAnyH_ready (rs := [14]) (by kernel_rfl) (by simp) ?_
          refine AllReadyH.cons (o := { dst := some 44, op := Go.Op.call { callee := Go.Callee.builtin Go.Builtin.append, args := #[Go.Operand.tmp 37, Go.Operand.tmp 43], argTypes := #[32, 32] }, type := 32, pos := "paths.go:146", after := #[{ on := 7, ground := Go.Ground.data }, { on := 13, ground := Go.Ground.data }, { on := 7, ground := Go.Ground.chain }], guard := none }) rfl (fun K hK => ?s54) ?m54
          case s54 =>
            first | (refine step_append_lies _ rfl (.tmp 37) (.tmp 43) 32 rfl wc.heap.size 31 j0 _ 2 32 Try.underlying32 hj0 jz0 jz1 jz2 rfl (by omega) v5 (wo lb b).length (flat31 (wo lb b)) rfl ?own ⟨w5.heap.size, 0, none⟩ 1 1 [.string b, .string a] rfl rfl ?news (by simp [Value.oneCell']) (by omega) (by unfold maxLen; omega) (by omega) ?base _ rfl ?_; (case own => exact own5.alloc _); (case news => exact World.news_of_block (cs := #[.string b, .string a]) (t := 31) (fr := (0, 0)) (MapKept.heap_alloc w5 _).1); (case base => simp; omega); intro gg cap w6 hown6 hgrow hat hlt6; have b6 := (b5.alloc sz5 (.cells #[.string b, .string a] 31)).grown hgrow (by simp; omega) (fun j hj => own_base own5 j hj); have h6B := (b6.block B lBW).trans g1.hB; have x6 := cellH h6B 1 (.slice A2 lb.length c2) rfl; have y6 := frozenH h6B 1; have k61 := cellH ((b6.block S (by omega)).trans q2) 1 (.string a) rfl; have k62 := cellH ((b6.block S (by omega)).trans q2) 2 (.string b) rfl) | (refine step_append_lies _ rfl (.tmp 37) (.tmp 43) 32 rfl wc.heap.size 31 j0 _ 2 32 Try.underlying32 hj0 jz0 jz1 jz2 rfl (by omega) v5 (wo lb b).length (flat31 (wo lb b)) rfl ?own ⟨wc.heap.size, 0, none⟩ 1 1 [.string b, .string a] rfl rfl ?news (by simp [Value.oneCell']) (by omega) (by unfold maxLen; omega) (by omega) ?base _ rfl ?_; (case own => exact own5); (case news => exact World.news_of_block (cs := #[.string b, .string a]) (t := 31) (fr := (0, 0)) ((hb5.block _ (ltH q1d.out)).trans q1d.out)); (case base => exact sz5); intro gg cap w6 hown6 hgrow hat hlt6; have b6 := b5.grown hgrow sz5 (fun j hj => own_base own5 j hj); have h6B := (b6.block B lBW).trans g1.hB; have x6 := cellH h6B 1 (.slice A2 lb.length c2) rfl; have y6 := frozenH h6B 1; have k61 := cellH ((b6.block S (by omega)).trans q2) 1 (.string a) rfl; have k62 := cellH ((b6.block S (by omega)).trans q2) 2 (.string b) rfl)
            refine hK.out _ _ ?h54 (fun hHeld => ?k54)
            case h54 => ((try dsimp only); (first | go_keep | (refine ⟨?_, ?_⟩ <;> first | assumption | go_keep | (rw [World.cell?_setCell_far _ _ _ _ (by simp; omega)]; assumption))))
            clear hK K
            try simp only [Act.put, List.setIfInBounds_toArray, List.set_cons_zero, List.set_cons_succ]
            refine wpAnyH_take (i := 15) (oi := { dst := some 45, op := Go.Op.nilCheck (Go.Operand.tmp 30), type := 0, pos := "paths.go:146", after := #[{ on := 0, ground := Go.Ground.data }, { on := 0, ground := Go.Ground.phase }, { on := 1, ground := Go.Ground.phase }, { on := 2, ground := Go.Ground.phase }, { on := 3, ground := Go.Ground.phase }, { on := 4, ground := Go.Ground.phase }, { on := 5, ground := Go.Ground.phase }, { on := 6, ground := Go.Ground.phase }, { on := 7, ground := Go.Ground.phase }, { on := 8, ground := Go.Ground.phase }, { on := 9, ground := Go.Ground.phase }, { on := 10, ground := Go.Ground.phase }, { on := 11, ground := Go.Ground.phase }, { on := 12, ground := Go.Ground.phase }, { on := 13, ground := Go.Ground.phase }, { on := 14, ground := Go.Ground.phase }], guard := none }) (v := ?v55) rfl (by kernel_rfl) (by kernel_rfl) (by kernel_rfl) (fun _ _ _ h => h) (Or.inl ⟨by rfl, ?y55⟩) (by assumption) ?r55
            case y55 => (intro w hSw; (try dsimp only at hSw); first | (go_simp; done) | (go_simp; with_reducible rfl))
            try simp only [Act.put, List.setIfInBounds_toArray, List.set_cons_zero, List.set_cons_succ]
            refine wpAnyH_take (i := 16) (oi := { dst := some 46, op := Go.Op.fieldAddr 38 (Go.Operand.tmp 45) 1, type := 0, pos := "paths.go:146", after := #[{ on := 15, ground := Go.Ground.data }, { on := 0, ground := Go.Ground.phase }, { on := 1, ground := Go.Ground.phase }, { on := 2, ground := Go.Ground.phase }, { on := 3, ground := Go.Ground.phase }, { on := 4, ground := Go.Ground.phase }, { on := 5, ground := Go.Ground.phase }, { on := 6, ground := Go.Ground.phase }, { on := 7, ground := Go.Ground.phase }, { on := 8, ground := Go.Ground.phase }, { on := 9, ground := Go.Ground.phase }, { on := 10, ground := Go.Ground.phase }, { on := 11, ground := Go.Ground.phase }, { on := 12, ground := Go.Ground.phase }, { on := 13, ground := Go.Ground.phase }, { on := 14, ground := Go.Ground.phase }], guard := none }) (v := ?v56) rfl (by kernel_rfl) (by kernel_rfl) (by kernel_rfl) (fun _ _ _ h => h) (Or.inl ⟨by rfl, ?y56⟩) (by assumption) ?r56
            case y56 => (intro w hSw; (try dsimp only at hSw); first | (go_simp; done) | (go_simp; with_reducible rfl))
            try simp only [Act.put, List.setIfInBounds_toArray, List.set_cons_zero, List.set_cons_succ]
            refine wpAnyH_ready (rs := [17]) (by kernel_rfl) (by simp) ?_
            refine AllReadyH.cons (o := { dst := none, op := Go.Op.store 32 (Go.Operand.tmp 46) (Go.Operand.tmp 44), type := 0, pos := "paths.go:146", after := #[{ on := 16, ground := Go.Ground.data }, { on := 14, ground := Go.Ground.data }, { on := 14, ground := Go.Ground.chain }, { on := 0, ground := Go.Ground.phase }, { on := 1, ground := Go.Ground.phase }, { on := 2, ground := Go.Ground.phase }, { on := 3, ground := Go.Ground.phase }, { on := 4, ground := Go.Ground.phase }, { on := 5, ground := Go.Ground.phase }, { on := 6, ground := Go.Ground.phase }, { on := 7, ground := Go.Ground.phase }, { on := 8, ground := Go.Ground.phase }, { on := 9, ground := Go.Ground.phase }, { on := 10, ground := Go.Ground.phase }, { on := 11, ground := Go.Ground.phase }, { on := 12, ground := Go.Ground.phase }, { on := 13, ground := Go.Ground.phase }, { on := 14, ground := Go.Ground.phase }], guard := none }) rfl (fun K hK => ?s57) ?m57
            case s57 =>
              go_simp
              refine hK.out _ _ ?h57 (fun hHeld => ?k57)
              case h57 => ((try dsimp only); (first | go_keep | (refine ⟨?_, ?_⟩ <;> first | assumption | go_keep | (rw [World.cell?_setCell_far _ _ _ _ (by simp; omega)]; assumption))))
              clear hK K
              try simp only [Act.put, List.setIfInBounds_toArray, List.set_cons_zero, List.set_cons_succ]
              refine wpAnyH_done (by kernel_rfl) ?_ _
              refine NoPanic.normal ?_
              have hown7 : w6.ownsRow wc.heap.size 31 2 (.slice (some ⟨gg, 0, none⟩) ((wo lb b).length + 1) cap) (wo lb b ++ [(⟨b, a⟩ : S31)]).length (flat31 (wo lb b ++ [(⟨b, a⟩ : S31)])) := by rw [flat31_snoc, List.length_append]; exact hown6
              have hD := (B_step g1 b6.block _ _ hown7 baseW).2
              have hK := keepB_step (B := B) (j := 1) (.slice (some ⟨gg, 0, none⟩) ((wo lb b).length + 1) cap) b6
              replace q3 := (hK.block (S + 1) lW (by omega)).trans q3
              have kk := bl2.trans hK
              obtain ⟨p1, p2, p3⟩ := ans_set (.string ⟨#[]⟩) (.bool false) hD q3 kk hS
              have a0 := cellH q3 0 _ rfl
              have a1 := cellH q3 1 _ rfl
              have u0 := frozenH q3 0
              have u1 := frozenH q3 1
              simp only [List.getElem_toArray, List.getElem_cons_succ, List.getElem_cons_zero] at a0 a1
              clear c0 c1' f0 f1 s0 s1 s2 g1 kk hK
              go_wp2_with fail
              refine bodyPost_ret (res13 (p := S + 1) rfl (cellH p1 0 _ rfl) (cellH p1 1 _ rfl)) rfl ?_
              exact ⟨rfl, _, _, p2, p3⟩
            exact AllReadyH.nil
          exact AllReadyH.nil
        exact AllReadyH.nil
      exact AllReadyH.nil
    refine AllReadyH.cons (o := { dst := some 43, op := Go.Op.buildSlice 32 1 #[(0, Go.Operand.tmp 42)], type := 32, pos := "paths.go:146", after := #[{ on := 12, ground := Go.Ground.data }], guard := none }) rfl (fun K hK => ?s58) ?m58
    case s58 =>
      go_simp
      refine hK.out _ _ ?h58 (fun hHeld => ?k58)
      case h58 => ((try dsimp only); (first | go_keep | (refine ⟨?_, ?_⟩ <;> first | assumption | go_keep | (rw [World.cell?_setCell_far _ _ _ _ (by simp; omega)]; assumption))))
      clear hK K
      try simp only [Act.put, List.setIfInBounds_toArray, List.set_cons_zero, List.set_cons_succ]
      refine wpAnyH_ready (rs := [4]) (by kernel_rfl) (by simp) ?_
      refine AllReadyH.cons (o := { dst := some 34, op := Go.Op.load 32 (Go.Operand.tmp 33), type := 32, pos := "paths.go:146", after := #[{ on := 3, ground := Go.Ground.data }], guard := none }) rfl (fun K hK => ?s59) ?m59
      case s59 =>
        go_simp
        refine hK.out _ _ ?h59 (fun hHeld => ?k59)
        case h59 => ((try dsimp only); (first | go_keep | (refine ⟨?_, ?_⟩ <;> first | assumption | go_keep | (rw [World.cell?_setCell_far _ _ _ _ (by simp; omega)]; assumption))))
        clear hK K
        try simp only [Act.put, List.setIfInBounds_toArray, List.set_cons_zero, List.set_cons_succ]
        refine wpAnyH_ready (rs := [7]) (by kernel_rfl) (by simp) ?_
        refine AllReadyH.cons (o := { dst := some 37, op := Go.Op.call { callee := Go.Callee.value (Go.Operand.func 26), args := #[Go.Operand.tmp 34, Go.Operand.tmp 36], argTypes := #[32, 9] }, type := 32, pos := "paths.go:146", after := #[{ on := 4, ground := Go.Ground.data }, { on := 6, ground := Go.Ground.data }], guard := none }) rfl (fun K hK => ?s60) ?m60
        case s60 =>
          go_simp; go_at_call 26; refine (wo_any _ base A2 lb.length c2 lb b rfl ?own h9).mono ?_; (case own => first | with_reducible exact o1d.out | with_reducible exact o1a.out); rintro e w5 ⟨v5, rfl, own5', hb5⟩; have own5 := own_mono (b' := wc.heap.size) own5' (by first | exact bd.out.size | exact ba.out.size); have b5 : Below wc.heap.size wc w5 := (by first | exact bd.out.trans (hb5.mono bd.out.size) | exact ba.out.trans (hb5.mono ba.out.size)); have h5B := (b5.block B lBW).trans g1.hB; have n5B := own_ne own5 h5B (by decide); have n5S := own_ne own5 ((b5.block S (by omega)).trans q2) (by decide); have sz5 := b5.size; clear own5'; have k51 := cellH ((b5.block S (by omega)).trans q2) 1 (.string a) rfl; have k52 := cellH ((b5.block S (by omega)).trans q2) 2 (.string b) rfl; have k50 := cellH h5B 1 (.slice A2 lb.length c2) rfl
          refine hK.out _ _ ?h60 (fun hHeld => ?k60)
          case h60 => ((try dsimp only); (first | go_keep | (refine ⟨?_, ?_⟩ <;> first | assumption | go_keep | (rw [World.cell?_setCell_far _ _ _ _ (by simp; omega)]; assumption))))
          clear hK K
          try simp only [Act.put, List.setIfInBounds_toArray, List.set_cons_zero, List.set_cons_succ]
          refine wpAnyH_ready (rs := [14]) (by kernel_rfl) (by simp) ?_
          refine AllReadyH.cons (o := { dst := some 44, op := Go.Op.call { callee := Go.Callee.builtin Go.Builtin.append, args := #[Go.Operand.tmp 37, Go.Operand.tmp 43], argTypes := #[32, 32] }, type := 32, pos := "paths.go:146", after := #[{ on := 7, ground := Go.Ground.data }, { on := 13, ground := Go.Ground.data }, { on := 7, ground := Go.Ground.chain }], guard := none }) rfl (fun K hK => ?s61) ?m61
          case s61 =>
            first | (refine step_append_lies _ rfl (.tmp 37) (.tmp 43) 32 rfl wc.heap.size 31 j0 _ 2 32 Try.underlying32 hj0 jz0 jz1 jz2 rfl (by omega) v5 (wo lb b).length (flat31 (wo lb b)) rfl ?own ⟨w5.heap.size, 0, none⟩ 1 1 [.string b, .string a] rfl rfl ?news (by simp [Value.oneCell']) (by omega) (by unfold maxLen; omega) (by omega) ?base _ rfl ?_; (case own => exact own5.alloc _); (case news => exact World.news_of_block (cs := #[.string b, .string a]) (t := 31) (fr := (0, 0)) (MapKept.heap_alloc w5 _).1); (case base => simp; omega); intro gg cap w6 hown6 hgrow hat hlt6; have b6 := (b5.alloc sz5 (.cells #[.string b, .string a] 31)).grown hgrow (by simp; omega) (fun j hj => own_base own5 j hj); have h6B := (b6.block B lBW).trans g1.hB; have x6 := cellH h6B 1 (.slice A2 lb.length c2) rfl; have y6 := frozenH h6B 1; have k61 := cellH ((b6.block S (by omega)).trans q2) 1 (.string a) rfl; have k62 := cellH ((b6.block S (by omega)).trans q2) 2 (.string b) rfl) | (refine step_append_lies _ rfl (.tmp 37) (.tmp 43) 32 rfl wc.heap.size 31 j0 _ 2 32 Try.underlying32 hj0 jz0 jz1 jz2 rfl (by omega) v5 (wo lb b).length (flat31 (wo lb b)) rfl ?own ⟨wc.heap.size, 0, none⟩ 1 1 [.string b, .string a] rfl rfl ?news (by simp [Value.oneCell']) (by omega) (by unfold maxLen; omega) (by omega) ?base _ rfl ?_; (case own => exact own5); (case news => exact World.news_of_block (cs := #[.string b, .string a]) (t := 31) (fr := (0, 0)) ((hb5.block _ (ltH q1d.out)).trans q1d.out)); (case base => exact sz5); intro gg cap w6 hown6 hgrow hat hlt6; have b6 := b5.grown hgrow sz5 (fun j hj => own_base own5 j hj); have h6B := (b6.block B lBW).trans g1.hB; have x6 := cellH h6B 1 (.slice A2 lb.length c2) rfl; have y6 := frozenH h6B 1; have k61 := cellH ((b6.block S (by omega)).trans q2) 1 (.string a) rfl; have k62 := cellH ((b6.block S (by omega)).trans q2) 2 (.string b) rfl)
            refine hK.out _ _ ?h61 (fun hHeld => ?k61)
            case h61 => ((try dsimp only); (first | go_keep | (refine ⟨?_, ?_⟩ <;> first | assumption | go_keep | (rw [World.cell?_setCell_far _ _ _ _ (by simp; omega)]; assumption))))
            clear hK K
            try simp only [Act.put, List.setIfInBounds_toArray, List.set_cons_zero, List.set_cons_succ]
            refine wpAnyH_take (i := 15) (oi := { dst := some 45, op := Go.Op.nilCheck (Go.Operand.tmp 30), type := 0, pos := "paths.go:146", after := #[{ on := 0, ground := Go.Ground.data }, { on := 0, ground := Go.Ground.phase }, { on := 1, ground := Go.Ground.phase }, { on := 2, ground := Go.Ground.phase }, { on := 3, ground := Go.Ground.phase }, { on := 4, ground := Go.Ground.phase }, { on := 5, ground := Go.Ground.phase }, { on := 6, ground := Go.Ground.phase }, { on := 7, ground := Go.Ground.phase }, { on := 8, ground := Go.Ground.phase }, { on := 9, ground := Go.Ground.phase }, { on := 10, ground := Go.Ground.phase }, { on := 11, ground := Go.Ground.phase }, { on := 12, ground := Go.Ground.phase }, { on := 13, ground := Go.Ground.phase }, { on := 14, ground := Go.Ground.phase }], guard := none }) (v := ?v62) rfl (by kernel_rfl) (by kernel_rfl) (by kernel_rfl) (fun _ _ _ h => h) (Or.inl ⟨by rfl, ?y62⟩) (by assumption) ?r62
            case y62 => (intro w hSw; (try dsimp only at hSw); first | (go_simp; done) | (go_simp; with_reducible rfl))
            try simp only [Act.put, List.setIfInBounds_toArray, List.set_cons_zero, List.set_cons_succ]
            refine wpAnyH_take (i := 16) (oi := { dst := some 46, op := Go.Op.fieldAddr 38 (Go.Operand.tmp 45) 1, type := 0, pos := "paths.go:146", after := #[{ on := 15, ground := Go.Ground.data }, { on := 0, ground := Go.Ground.phase }, { on := 1, ground := Go.Ground.phase }, { on := 2, ground := Go.Ground.phase }, { on := 3, ground := Go.Ground.phase }, { on := 4, ground := Go.Ground.phase }, { on := 5, ground := Go.Ground.phase }, { on := 6, ground := Go.Ground.phase }, { on := 7, ground := Go.Ground.phase }, { on := 8, ground := Go.Ground.phase }, { on := 9, ground := Go.Ground.phase }, { on := 10, ground := Go.Ground.phase }, { on := 11, ground := Go.Ground.phase }, { on := 12, ground := Go.Ground.phase }, { on := 13, ground := Go.Ground.phase }, { on := 14, ground := Go.Ground.phase }], guard := none }) (v := ?v63) rfl (by kernel_rfl) (by kernel_rfl) (by kernel_rfl) (fun _ _ _ h => h) (Or.inl ⟨by rfl, ?y63⟩) (by assumption) ?r63
            case y63 => (intro w hSw; (try dsimp only at hSw); first | (go_simp; done) | (go_simp; with_reducible rfl))
            try simp only [Act.put, List.setIfInBounds_toArray, List.set_cons_zero, List.set_cons_succ]
            refine wpAnyH_ready (rs := [17]) (by kernel_rfl) (by simp) ?_
            refine AllReadyH.cons (o := { dst := none, op := Go.Op.store 32 (Go.Operand.tmp 46) (Go.Operand.tmp 44), type := 0, pos := "paths.go:146", after := #[{ on := 16, ground := Go.Ground.data }, { on := 14, ground := Go.Ground.data }, { on := 14, ground := Go.Ground.chain }, { on := 0, ground := Go.Ground.phase }, { on := 1, ground := Go.Ground.phase }, { on := 2, ground := Go.Ground.phase }, { on := 3, ground := Go.Ground.phase }, { on := 4, ground := Go.Ground.phase }, { on := 5, ground := Go.Ground.phase }, { on := 6, ground := Go.Ground.phase }, { on := 7, ground := Go.Ground.phase }, { on := 8, ground := Go.Ground.phase }, { on := 9, ground := Go.Ground.phase }, { on := 10, ground := Go.Ground.phase }, { on := 11, ground := Go.Ground.phase }, { on := 12, ground := Go.Ground.phase }, { on := 13, ground := Go.Ground.phase }, { on := 14, ground := Go.Ground.phase }], guard := none }) rfl (fun K hK => ?s64) ?m64
            case s64 =>
              go_simp
              refine hK.out _ _ ?h64 (fun hHeld => ?k64)
              case h64 => ((try dsimp only); (first | go_keep | (refine ⟨?_, ?_⟩ <;> first | assumption | go_keep | (rw [World.cell?_setCell_far _ _ _ _ (by simp; omega)]; assumption))))
              clear hK K
              try simp only [Act.put, List.setIfInBounds_toArray, List.set_cons_zero, List.set_cons_succ]
              refine wpAnyH_done (by kernel_rfl) ?_ _
              refine NoPanic.normal ?_
              have hown7 : w6.ownsRow wc.heap.size 31 2 (.slice (some ⟨gg, 0, none⟩) ((wo lb b).length + 1) cap) (wo lb b ++ [(⟨b, a⟩ : S31)]).length (flat31 (wo lb b ++ [(⟨b, a⟩ : S31)])) := by rw [flat31_snoc, List.length_append]; exact hown6
              have hD := (B_step g1 b6.block _ _ hown7 baseW).2
              have hK := keepB_step (B := B) (j := 1) (.slice (some ⟨gg, 0, none⟩) ((wo lb b).length + 1) cap) b6
              replace q3 := (hK.block (S + 1) lW (by omega)).trans q3
              have kk := bl2.trans hK
              obtain ⟨p1, p2, p3⟩ := ans_set (.string ⟨#[]⟩) (.bool false) hD q3 kk hS
              have a0 := cellH q3 0 _ rfl
              have a1 := cellH q3 1 _ rfl
              have u0 := frozenH q3 0
              have u1 := frozenH q3 1
              simp only [List.getElem_toArray, List.getElem_cons_succ, List.getElem_cons_zero] at a0 a1
              clear c0 c1' f0 f1 s0 s1 s2 g1 kk hK
              go_wp2_with fail
              refine bodyPost_ret (res13 (p := S + 1) rfl (cellH p1 0 _ rfl) (cellH p1 1 _ rfl)) rfl ?_
              exact ⟨rfl, _, _, p2, p3⟩
            exact AllReadyH.nil
          exact AllReadyH.nil
        exact AllReadyH.nil
      exact AllReadyH.nil
    exact AllReadyH.nil
end Go.Proofs.Ytkdmdoflfaldiaa.Given
