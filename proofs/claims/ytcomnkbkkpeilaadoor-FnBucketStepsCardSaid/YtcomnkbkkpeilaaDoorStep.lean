/- The contract of spec.Buckets.Step: it answers as stepB says, and knows behind it what stepB says; up to 999,990 names. -/
import Derived.Test.YtcomnkbkkpeilaaDoorSpecSet
import Derived.Test.YtcomnkbkkpeilaaDoorPureA
namespace Go.Proofs.YtcomnkbkkpeilaaDoor.Given
open Go.RowKit Go.WideMaps Go.Maps Go.Proofs.YtcomnkbkkpeilaaDoorW.PrintWords Go.Proofs.YtcomnkbkkpeilaaDoor.PA
set_option linter.unusedVariables false
set_option linter.unusedSimpArgs false

theorem res10 {wr : World} {tmps : Array Value} {p : Nat} {a b c d : Value} (h4 : tmps.getD 4 undef = .pointer (some ⟨p, 0, none⟩)) (h0 : wr.cell? ⟨p, 0, none⟩ = some a) (h1 : wr.cell? ⟨p, 1, none⟩ = some b) (h2 : wr.cell? ⟨p, 2, none⟩ = some c) (h3 : wr.cell? ⟨p, 3, none⟩ = some d) :
    (results Tryd.f10 tmps).run Tryd.prog wr = .ok (.agg #[a, b, c, d]) wr := by
  have h4' : tmps[4]?.getD undef = .pointer (some ⟨p, 0, none⟩) := by simpa using h4
  clear h4
  have hu := Tryd.underlying30
  have ha := Tryd.isAgg30
  simp [results, Tryd.results10, go_sem, h4', h0, h1, h2, h3, hu]

theorem SpecB.alloc {w : World} {B base n : Nat} {vN vI : Value} {kv : List (ByteArray × Int)} (h : SpecB w B base n vN vI kv) (o : Obj) : SpecB (w.alloc o) B base n vN vI kv :=
  ⟨(Below.heap_alloc _ _ _ (ltH h.hB)).trans h.hB, h.oN.alloc o, h.oI.alloc o, h.len, h.sm⟩
theorem after_set {w w6 : World} {B base n : Nat} {vN vI : Value} {kv : List (ByteArray × Int)} (h : SpecB w B base n vN vI kv) (o1 o2 o3 : Obj) (hk : KeepS B vN vI (((w.alloc o1).alloc o2).alloc o3) w6) :
    w6.heap[w.heap.size]? = some o1 ∧ w6.heap[w.heap.size + 1]? = some o2 ∧ w6.heap[w.heap.size + 1 + 1]? = some o3 := by
  have lB := ltH h.hB
  have key : ∀ k, w.heap.size ≤ k → k < w.heap.size + 3 → w6.heap[k]? = (((w.alloc o1).alloc o2).alloc o3).heap[k]? := fun k h1 h2 => hk.2.2.2.2 k (by simp; omega) (by omega) (fun e => by have := own_lt h.oN k e.symm; omega) (fun e => by have := own_lt h.oI k e.symm; omega)
  have z1 : (w.alloc o1).heap.size = w.heap.size + 1 := by simp
  have z2 : ((w.alloc o1).alloc o2).heap.size = w.heap.size + 2 := by simp
  refine ⟨?_, ?_, ?_⟩
  · rw [key _ (by omega) (by omega), Below.heap_alloc _ _ _ (by omega), Below.heap_alloc _ _ _ (by omega)]
    exact (MapKept.heap_alloc w o1).1
  · rw [key _ (by omega) (by omega), Below.heap_alloc _ _ _ (by omega), ← z1]
    exact (MapKept.heap_alloc (w.alloc o1) o2).1
  · rw [key _ (by omega) (by omega), show w.heap.size + 1 + 1 = ((w.alloc o1).alloc o2).heap.size by rw [z2]]
    exact (MapKept.heap_alloc ((w.alloc o1).alloc o2) o3).1

def Rel (kv : List (ByteArray × Int)) (f : ByteArray → Option Bool) : Prop := ∀ c, ofK kv c = code (f c)

theorem rel_upd {kv : List (ByteArray × Int)} {f : ByteArray → Option Bool} (h : Rel kv f) (b : ByteArray) (v : Bool) (x : Int) (hx : x = code (some v)) : Rel (setK kv b x) (upd f b v) := by
  intro c
  rw [ofK_setK, hx]
  unfold upd
  split
  · rfl
  · exact h c
theorem rel_same {kv : List (ByteArray × Int)} {f g : ByteArray → Option Bool} (h : Rel kv f) (hg : ∀ c, g c = f c) : Rel kv g := fun c => by rw [hg c]; exact h c
theorem upd_same {f : ByteArray → Option Bool} {b : ByteArray} {v : Bool} (h : f b = some v) : ∀ c, upd f b v c = f c := fun c => by
  unfold upd
  split
  · rename_i e; rw [e, h]
  · rfl
theorem keep3 {w : World} {B base n : Nat} {vN vI : Value} {kv : List (ByteArray × Int)} (h : SpecB w B base n vN vI kv) (o1 o2 o3 : Obj) : KeepS B vN vI w (((w.alloc o1).alloc o2).alloc o3) := by
  have hb : Below w.heap.size w (((w.alloc o1).alloc o2).alloc o3) := (((Below.refl _ _).alloc (Nat.le_refl _) _).alloc (by simp) _).alloc (by simp; omega) _
  exact ⟨hb.os, hb.tape, hb.output, hb.size, fun k h1 _ _ _ => hb.block k h1⟩
theorem heapR (w : World) (o1 : Obj) (c2 : Array Value) (o3 : Obj) : (((w.alloc o1).alloc (.cells c2 30 (0, 0))).alloc o3).heap[w.heap.size + 1]? = some (.cells c2 30 (0, 0)) := by
  have z1 : (w.alloc o1).heap.size = w.heap.size + 1 := by simp
  rw [Below.heap_alloc _ _ _ (by simp), ← z1]
  exact (MapKept.heap_alloc (w.alloc o1) (.cells c2 30 (0, 0))).1
theorem fin_set {w w6 : World} {B base n n' : Nat} {vN vI vN' vI' : Value} {kv kv' : List (ByteArray × Int)} {o1 o3 : Obj} (h : SpecB w B base n vN vI kv) {c2 : Array Value} (hc2 : c2.size = 4)
    (hk6 : KeepS B vN vI (((w.alloc o1).alloc (.cells c2 30 (0, 0))).alloc o3) w6) (hS6 : SpecB w6 B base n' vN' vI' kv') (q2 : w6.heap[w.heap.size + 1]? = some (.cells c2 30 (0, 0))) (a b c d : Value) :
    ((((w6.setCell ⟨w.heap.size + 1, 0, none⟩ a).setCell ⟨w.heap.size + 1, 1, none⟩ b).setCell ⟨w.heap.size + 1, 2, none⟩ c).setCell ⟨w.heap.size + 1, 3, none⟩ d).heap[w.heap.size + 1]? = some (.cells #[a, b, c, d] 30 (0, 0)) ∧
    SpecB ((((w6.setCell ⟨w.heap.size + 1, 0, none⟩ a).setCell ⟨w.heap.size + 1, 1, none⟩ b).setCell ⟨w.heap.size + 1, 2, none⟩ c).setCell ⟨w.heap.size + 1, 3, none⟩ d) B base n' vN' vI' kv' ∧
    KeepS B vN vI w ((((w6.setCell ⟨w.heap.size + 1, 0, none⟩ a).setCell ⟨w.heap.size + 1, 1, none⟩ b).setCell ⟨w.heap.size + 1, 2, none⟩ c).setCell ⟨w.heap.size + 1, 3, none⟩ d) := by
  obtain ⟨l⟩ := c2
  have hl : l.length = 4 := hc2
  obtain ⟨e0, e1, e2, e3, rfl⟩ : ∃ e0 e1 e2 e3, l = [e0, e1, e2, e3] := by
    match l, hl with
    | [e0, e1, e2, e3], _ => exact ⟨e0, e1, e2, e3, rfl⟩
  have g1 := setH q2 0 a (by simp)
  have g2 := setH g1 1 b (by simp)
  have g3 := setH g2 2 c (by simp)
  have g4 := setH g3 3 d (by simp)
  have sc : ∀ k, k ≠ w.heap.size + 1 → ((((w6.setCell ⟨w.heap.size + 1, 0, none⟩ a).setCell ⟨w.heap.size + 1, 1, none⟩ b).setCell ⟨w.heap.size + 1, 2, none⟩ c).setCell ⟨w.heap.size + 1, 3, none⟩ d).heap[k]? = w6.heap[k]? := fun k hk =>
    ((((Below.heap_setCell _ _ _ k hk).trans (Below.heap_setCell _ _ _ k hk)).trans (Below.heap_setCell _ _ _ k hk)).trans (Below.heap_setCell _ _ _ k hk))
  have k3 := keep3 h o1 (.cells #[e0, e1, e2, e3] 30 (0, 0)) o3
  refine ⟨g4, ⟨(sc B (neT hS6.hB q2 (by decide))).trans hS6.hB, own_move hS6.oN (fun k e => sc k (fun e' => own_ne hS6.oN q2 (by decide) (by rw [e, e']))), own_move hS6.oI (fun k e => sc k (fun e' => own_ne hS6.oI q2 (by decide) (by rw [e, e']))), hS6.len, hS6.sm⟩, ?_⟩
  refine ⟨hk6.1.trans k3.1, hk6.2.1.trans k3.2.1, hk6.2.2.1.trans k3.2.2.1, ?_, ?_⟩
  · have := Nat.le_trans k3.2.2.2.1 hk6.2.2.2.1
    simpa using this
  · intro k h1 h2 h3 h4
    exact ((sc k (by omega)).trans (hk6.2.2.2.2 k (Nat.lt_of_lt_of_le h1 k3.2.2.2.1) h2 h3 h4)).trans (k3.2.2.2.2 k h1 h2 h3 h4)

set_option maxHeartbeats 4000000 in
set_option maxRecDepth 100000 in
theorem step_any (w : World) (B base n : Nat) (vN vI : Value) (kv : List (ByteArray × Int)) (f : ByteArray → Option Bool) (dv : Int) (b : ByteArray) (good asks found fails : Bool) (h : SpecB w B base n vN vI kv) (hf : Rel kv f) (hf0 : f ⟨#[]⟩ = none) (hn : n ≤ 999990) (hbase : base ≤ w.heap.size) :
    Calls Tryd.prog 10 #[.pointer (some ⟨B, 0, none⟩), .agg #[.int .i64 dv, .string b, .bool good, .bool asks, .bool found, .bool fails]] w fun e w' =>
      e = .returned (.agg #[.bool (stepB f ⟨dv, b, good, asks, found, fails⟩).2.f0, .bool (stepB f ⟨dv, b, good, asks, found, fails⟩).2.f1, .bool (stepB f ⟨dv, b, good, asks, found, fails⟩).2.f2, .int .i64 (stepB f ⟨dv, b, good, asks, found, fails⟩).2.f3]) ∧
      ∃ n' vN' vI' kv', n' ≤ n + 1 ∧ SpecB w' B base n' vN' vI' kv' ∧ Rel kv' (stepB f ⟨dv, b, good, asks, found, fails⟩).1 ∧ KeepS B vN vI w w' := by
  obtain ⟨x, hx⟩ : ∃ x, (stepB f ⟨dv, b, good, asks, found, fails⟩).2 = x := ⟨_, rfl⟩
  obtain ⟨f', hf'⟩ : ∃ f', (stepB f ⟨dv, b, good, asks, found, fails⟩).1 = f' := ⟨_, rfl⟩
  rw [hx, hf']
  have hn9 : n ≤ n + 1 := Nat.le_succ _
  have cO := fun o1 o2 o3 => spec_of _ B base n vN vI kv b (((h.alloc o1).alloc o2).alloc o3)
  have hcb := hf b
  rw [hcb] at cO
  have cS := fun o1 o2 o3 (v : Int) => spec_set _ B base n vN vI kv b v (((h.alloc o1).alloc o2).alloc o3) (by omega) (by simp; omega)
  have aS := fun (w6 : World) o1 o2 o3 (hk : KeepS B vN vI (((w.alloc o1).alloc o2).alloc o3) w6) => after_set h o1 o2 o3 hk
  by_cases hb : b = ⟨#[]⟩
  · subst hb
    have e1 : (⟨#[]⟩ : ByteArray).toList.isEmpty = true := by rw [ByteArray.toList_eq]; rfl
    obtain rfl : z30 = x := by rw [← hx]; exact (step_zero f _ hf0 rfl).symm
    obtain rfl : f = f' := by rw [← hf']; exact (step_idle f _ (by simp [keepB, e1])).symm
    clear hx hf'
    go_enter Tryd.func10, Tryd.ntmps10
    go_wp2_with fail
    refine bodyPost_ret (res10 (p := w.heap.size + 1) rfl (cellH (heapR w _ _ _) 0 _ rfl) (cellH (heapR w _ _ _) 1 _ rfl) (cellH (heapR w _ _ _) 2 _ rfl) (cellH (heapR w _ _ _) 3 _ rfl)) rfl ?_
    exact ⟨rfl, n, vN, vI, kv, hn9, ((h.alloc _).alloc _).alloc _, hf, keep3 h _ _ _⟩
  have e1 := e_em hb
  by_cases d0 : dv = 0
  · subst d0
    obtain rfl : (⟨false, false, false, 0⟩ : S30) = x := by rw [← hx]; simp [stepB, crF, z30, hb]
    obtain rfl : upd f b true = f' := by rw [← hf']; simp [stepB, crF, hb]
    clear hx hf'
    go_enter Tryd.func10, Tryd.ntmps10
    go_wp2_with (first | (go_at_call 21; go_must (refine (cO _ _ _).mono ?_; rintro e w5 ⟨rfl, rfl⟩)) | (go_at_call 22; go_must (refine (cS _ _ _ _).mono ?_; rintro e w6 ⟨rfl, n', vN', vI', hn', hS6, hk6⟩); have q := aS w6 _ _ _ hk6; obtain ⟨q1, q2, q3⟩ := q; have a0 := cellH q3 0 _ rfl; have a1 := cellH q3 1 _ rfl; have a2 := cellH q3 2 _ rfl; have a3 := cellH q3 3 _ rfl; have r0 := cellH q2 0 _ rfl; have r1 := cellH q2 1 _ rfl; have r2 := cellH q2 2 _ rfl; have r3 := cellH q2 3 _ rfl; have z0 := frozenH q2 0; have z1 := frozenH q2 1; have z2 := frozenH q2 2; have z3 := frozenH q2 3; simp only [List.getElem_toArray, List.getElem_cons_succ, List.getElem_cons_zero] at a0 a1 a2 a3 r0 r1 r2 r3))
    obtain ⟨g4, s4, k4⟩ := fin_set h rfl hk6 hS6 q2 (.bool false) (.bool false) (.bool false) (.int .i64 0)
    refine bodyPost_ret (res10 (p := w.heap.size + 1) rfl (cellH g4 0 _ rfl) (cellH g4 1 _ rfl) (cellH g4 2 _ rfl) (cellH g4 3 _ rfl)) rfl ?_
    exact ⟨rfl, n', vN', vI', _, hn', s4, rel_upd hf b true 1 rfl, k4⟩
  have d0b : (dv == 0) = false := by simp [d0]
  by_cases d1 : dv = 1
  · subst d1
    obtain rfl : (⟨false, false, false, 0⟩ : S30) = x := by rw [← hx]; simp [stepB, crF, z30, hb]
    obtain rfl : upd f b false = f' := by rw [← hf']; simp [stepB, crF, hb]
    clear hx hf'
    go_enter Tryd.func10, Tryd.ntmps10
    go_wp2_with (first | (go_at_call 21; go_must (refine (cO _ _ _).mono ?_; rintro e w5 ⟨rfl, rfl⟩)) | (go_at_call 22; go_must (refine (cS _ _ _ _).mono ?_; rintro e w6 ⟨rfl, n', vN', vI', hn', hS6, hk6⟩); have q := aS w6 _ _ _ hk6; obtain ⟨q1, q2, q3⟩ := q; have a0 := cellH q3 0 _ rfl; have a1 := cellH q3 1 _ rfl; have a2 := cellH q3 2 _ rfl; have a3 := cellH q3 3 _ rfl; have r0 := cellH q2 0 _ rfl; have r1 := cellH q2 1 _ rfl; have r2 := cellH q2 2 _ rfl; have r3 := cellH q2 3 _ rfl; have z0 := frozenH q2 0; have z1 := frozenH q2 1; have z2 := frozenH q2 2; have z3 := frozenH q2 3; simp only [List.getElem_toArray, List.getElem_cons_succ, List.getElem_cons_zero] at a0 a1 a2 a3 r0 r1 r2 r3))
    obtain ⟨g4, s4, k4⟩ := fin_set h rfl hk6 hS6 q2 (.bool false) (.bool false) (.bool false) (.int .i64 0)
    refine bodyPost_ret (res10 (p := w.heap.size + 1) rfl (cellH g4 0 _ rfl) (cellH g4 1 _ rfl) (cellH g4 2 _ rfl) (cellH g4 3 _ rfl)) rfl ?_
    exact ⟨rfl, n', vN', vI', _, hn', s4, rel_upd hf b false 2 rfl, k4⟩
  have d1b : (dv == 1) = false := by simp [d1]
  by_cases d2 : dv = 2
  · subst d2
    cases hfb : f b with
    | none =>
      rw [hfb] at cO
      simp only [code] at cO
      obtain rfl : (⟨false, false, false, 0⟩ : S30) = x := by rw [← hx]; simp [stepB, crF, z30, hfb]
      obtain rfl : f = f' := by rw [← hf']; simp [stepB, crF, hfb]
      clear hx hf'
      go_enter Tryd.func10, Tryd.ntmps10
      go_wp2_with (first | (go_at_call 21; go_must (refine (cO _ _ _).mono ?_; rintro e w5 ⟨rfl, rfl⟩)))
      refine bodyPost_ret (res10 (p := w.heap.size + 1) rfl (cellH (heapR w _ _ _) 0 _ rfl) (cellH (heapR w _ _ _) 1 _ rfl) (cellH (heapR w _ _ _) 2 _ rfl) (cellH (heapR w _ _ _) 3 _ rfl)) rfl ?_
      exact ⟨rfl, n, vN, vI, kv, hn9, ((h.alloc _).alloc _).alloc _, hf, keep3 h _ _ _⟩
    | some v =>
      rw [hfb] at cO
      cases v with
      | true =>
        simp only [code] at cO
        obtain rfl : (⟨false, false, false, 0⟩ : S30) = x := by rw [← hx]; simp [stepB, crF, z30, hfb]
        obtain rfl : f = f' := by rw [← hf']; simp [stepB, crF, hfb]
        clear hx hf'
        go_enter Tryd.func10, Tryd.ntmps10
        go_wp2_with (first | (go_at_call 21; go_must (refine (cO _ _ _).mono ?_; rintro e w5 ⟨rfl, rfl⟩)))
        refine bodyPost_ret (res10 (p := w.heap.size + 1) rfl (cellH (heapR w _ _ _) 0 _ rfl) (cellH (heapR w _ _ _) 1 _ rfl) (cellH (heapR w _ _ _) 2 _ rfl) (cellH (heapR w _ _ _) 3 _ rfl)) rfl ?_
        exact ⟨rfl, n, vN, vI, kv, hn9, ((h.alloc _).alloc _).alloc _, hf, keep3 h _ _ _⟩
      | false =>
        simp only [code] at cO
        obtain rfl : (⟨true, false, false, 0⟩ : S30) = x := by rw [← hx]; simp [stepB, crF, z30, hfb]
        obtain rfl : f = f' := by rw [← hf']; simp [stepB, crF, hfb]
        clear hx hf'
        go_enter Tryd.func10, Tryd.ntmps10
        go_wp2_with (first | (go_at_call 21; go_must (refine (cO _ _ _).mono ?_; rintro e w5 ⟨rfl, rfl⟩)))
        refine bodyPost_ret (res10 (p := w.heap.size + 1) rfl (cellH (heapR w _ _ _) 0 _ rfl) (cellH (heapR w _ _ _) 1 _ rfl) (cellH (heapR w _ _ _) 2 _ rfl) (cellH (heapR w _ _ _) 3 _ rfl)) rfl ?_
        exact ⟨rfl, n, vN, vI, kv, hn9, ((h.alloc _).alloc _).alloc _, hf, keep3 h _ _ _⟩
  have d2b : (dv == 2) = false := by simp [d2]
  by_cases d3 : dv = 3
  · subst d3
    cases hfb : f b with
    | none =>
      rw [hfb] at cO
      simp only [code] at cO
      cases good with
      | true =>
        obtain rfl : (⟨false, true, false, 0⟩ : S30) = x := by rw [← hx]; simp [stepB, crF, z30, hb, hfb]
        obtain rfl : upd f b true = f' := by rw [← hf']; simp [stepB, crF, hb, hfb]
        clear hx hf'
        go_enter Tryd.func10, Tryd.ntmps10
        go_wp2_with (first | (go_at_call 21; go_must (refine (cO _ _ _).mono ?_; rintro e w5 ⟨rfl, rfl⟩)) | (go_at_call 22; go_must (refine (cS _ _ _ _).mono ?_; rintro e w6 ⟨rfl, n', vN', vI', hn', hS6, hk6⟩); have q := aS w6 _ _ _ hk6; obtain ⟨q1, q2, q3⟩ := q; have a0 := cellH q3 0 _ rfl; have a1 := cellH q3 1 _ rfl; have a2 := cellH q3 2 _ rfl; have a3 := cellH q3 3 _ rfl; have r0 := cellH q2 0 _ rfl; have r1 := cellH q2 1 _ rfl; have r2 := cellH q2 2 _ rfl; have r3 := cellH q2 3 _ rfl; have z0 := frozenH q2 0; have z1 := frozenH q2 1; have z2 := frozenH q2 2; have z3 := frozenH q2 3; simp only [List.getElem_toArray, List.getElem_cons_succ, List.getElem_cons_zero] at a0 a1 a2 a3 r0 r1 r2 r3))
        obtain ⟨g4, s4, k4⟩ := fin_set h rfl hk6 hS6 q2 (.bool false) (.bool true) (.bool false) (.int .i64 0)
        refine bodyPost_ret (res10 (p := w.heap.size + 1) rfl (cellH g4 0 _ rfl) (cellH g4 1 _ rfl) (cellH g4 2 _ rfl) (cellH g4 3 _ rfl)) rfl ?_
        exact ⟨rfl, n', vN', vI', _, hn', s4, rel_upd hf b true 1 rfl, k4⟩
      | false =>
        obtain rfl : (⟨false, true, false, 1⟩ : S30) = x := by rw [← hx]; simp [stepB, crF, z30, hb, hfb]
        obtain rfl : f = f' := by rw [← hf']; simp [stepB, crF, hb, hfb]
        clear hx hf'
        go_enter Tryd.func10, Tryd.ntmps10
        go_wp2_with (first | (go_at_call 21; go_must (refine (cO _ _ _).mono ?_; rintro e w5 ⟨rfl, rfl⟩)))
        refine bodyPost_ret (res10 (p := w.heap.size + 1) rfl (cellH (heapR w _ _ _) 0 _ rfl) (cellH (heapR w _ _ _) 1 _ rfl) (cellH (heapR w _ _ _) 2 _ rfl) (cellH (heapR w _ _ _) 3 _ rfl)) rfl ?_
        exact ⟨rfl, n, vN, vI, kv, hn9, ((h.alloc _).alloc _).alloc _, hf, keep3 h _ _ _⟩
    | some v =>
      rw [hfb] at cO
      cases v with
      | true =>
        simp only [code] at cO
        obtain rfl : (⟨false, false, false, 0⟩ : S30) = x := by rw [← hx]; simp [stepB, crF, z30, hb, hfb]
        obtain rfl : f = f' := by rw [← hf']; simp [stepB, crF, hb, hfb]
        clear hx hf'
        go_enter Tryd.func10, Tryd.ntmps10
        go_wp2_with (first | (go_at_call 21; go_must (refine (cO _ _ _).mono ?_; rintro e w5 ⟨rfl, rfl⟩)))
        refine bodyPost_ret (res10 (p := w.heap.size + 1) rfl (cellH (heapR w _ _ _) 0 _ rfl) (cellH (heapR w _ _ _) 1 _ rfl) (cellH (heapR w _ _ _) 2 _ rfl) (cellH (heapR w _ _ _) 3 _ rfl)) rfl ?_
        exact ⟨rfl, n, vN, vI, kv, hn9, ((h.alloc _).alloc _).alloc _, hf, keep3 h _ _ _⟩
      | false =>
        simp only [code] at cO
        cases asks with
        | false =>
          cases good with
          | true =>
            obtain rfl : (⟨false, true, false, 0⟩ : S30) = x := by rw [← hx]; simp [stepB, crF, z30, hb, hfb]
            obtain rfl : upd f b true = f' := by rw [← hf']; simp [stepB, crF, hb, hfb]
            clear hx hf'
            go_enter Tryd.func10, Tryd.ntmps10
            go_wp2_with (first | (go_at_call 21; go_must (refine (cO _ _ _).mono ?_; rintro e w5 ⟨rfl, rfl⟩)) | (go_at_call 22; go_must (refine (cS _ _ _ _).mono ?_; rintro e w6 ⟨rfl, n', vN', vI', hn', hS6, hk6⟩); have q := aS w6 _ _ _ hk6; obtain ⟨q1, q2, q3⟩ := q; have a0 := cellH q3 0 _ rfl; have a1 := cellH q3 1 _ rfl; have a2 := cellH q3 2 _ rfl; have a3 := cellH q3 3 _ rfl; have r0 := cellH q2 0 _ rfl; have r1 := cellH q2 1 _ rfl; have r2 := cellH q2 2 _ rfl; have r3 := cellH q2 3 _ rfl; have z0 := frozenH q2 0; have z1 := frozenH q2 1; have z2 := frozenH q2 2; have z3 := frozenH q2 3; simp only [List.getElem_toArray, List.getElem_cons_succ, List.getElem_cons_zero] at a0 a1 a2 a3 r0 r1 r2 r3))
            obtain ⟨g4, s4, k4⟩ := fin_set h rfl hk6 hS6 q2 (.bool false) (.bool true) (.bool false) (.int .i64 0)
            refine bodyPost_ret (res10 (p := w.heap.size + 1) rfl (cellH g4 0 _ rfl) (cellH g4 1 _ rfl) (cellH g4 2 _ rfl) (cellH g4 3 _ rfl)) rfl ?_
            exact ⟨rfl, n', vN', vI', _, hn', s4, rel_upd hf b true 1 rfl, k4⟩
          | false =>
            obtain rfl : (⟨false, true, false, 1⟩ : S30) = x := by rw [← hx]; simp [stepB, crF, z30, hb, hfb]
            obtain rfl : f = f' := by rw [← hf']; simp [stepB, crF, hb, hfb]
            clear hx hf'
            go_enter Tryd.func10, Tryd.ntmps10
            go_wp2_with (first | (go_at_call 21; go_must (refine (cO _ _ _).mono ?_; rintro e w5 ⟨rfl, rfl⟩)))
            refine bodyPost_ret (res10 (p := w.heap.size + 1) rfl (cellH (heapR w _ _ _) 0 _ rfl) (cellH (heapR w _ _ _) 1 _ rfl) (cellH (heapR w _ _ _) 2 _ rfl) (cellH (heapR w _ _ _) 3 _ rfl)) rfl ?_
            exact ⟨rfl, n, vN, vI, kv, hn9, ((h.alloc _).alloc _).alloc _, hf, keep3 h _ _ _⟩
        | true =>
          cases fails with
          | true =>
            obtain rfl : (⟨false, false, true, 2⟩ : S30) = x := by rw [← hx]; simp [stepB, crF, z30, hb, hfb]
            obtain rfl : f = f' := by rw [← hf']; simp [stepB, crF, hb, hfb]
            clear hx hf'
            go_enter Tryd.func10, Tryd.ntmps10
            go_wp2_with (first | (go_at_call 21; go_must (refine (cO _ _ _).mono ?_; rintro e w5 ⟨rfl, rfl⟩)))
            refine bodyPost_ret (res10 (p := w.heap.size + 1) rfl (cellH (heapR w _ _ _) 0 _ rfl) (cellH (heapR w _ _ _) 1 _ rfl) (cellH (heapR w _ _ _) 2 _ rfl) (cellH (heapR w _ _ _) 3 _ rfl)) rfl ?_
            exact ⟨rfl, n, vN, vI, kv, hn9, ((h.alloc _).alloc _).alloc _, hf, keep3 h _ _ _⟩
          | false =>
            cases found with
            | true =>
              obtain rfl : (⟨false, false, true, 0⟩ : S30) = x := by rw [← hx]; simp [stepB, crF, z30, hb, hfb]
              obtain rfl : upd f b true = f' := by rw [← hf']; simp [stepB, crF, hb, hfb]
              clear hx hf'
              go_enter Tryd.func10, Tryd.ntmps10
              go_wp2_with (first | (go_at_call 21; go_must (refine (cO _ _ _).mono ?_; rintro e w5 ⟨rfl, rfl⟩)) | (go_at_call 22; go_must (refine (cS _ _ _ _).mono ?_; rintro e w6 ⟨rfl, n', vN', vI', hn', hS6, hk6⟩); have q := aS w6 _ _ _ hk6; obtain ⟨q1, q2, q3⟩ := q; have a0 := cellH q3 0 _ rfl; have a1 := cellH q3 1 _ rfl; have a2 := cellH q3 2 _ rfl; have a3 := cellH q3 3 _ rfl; have r0 := cellH q2 0 _ rfl; have r1 := cellH q2 1 _ rfl; have r2 := cellH q2 2 _ rfl; have r3 := cellH q2 3 _ rfl; have z0 := frozenH q2 0; have z1 := frozenH q2 1; have z2 := frozenH q2 2; have z3 := frozenH q2 3; simp only [List.getElem_toArray, List.getElem_cons_succ, List.getElem_cons_zero] at a0 a1 a2 a3 r0 r1 r2 r3))
              obtain ⟨g4, s4, k4⟩ := fin_set h rfl hk6 hS6 q2 (.bool false) (.bool false) (.bool true) (.int .i64 0)
              refine bodyPost_ret (res10 (p := w.heap.size + 1) rfl (cellH g4 0 _ rfl) (cellH g4 1 _ rfl) (cellH g4 2 _ rfl) (cellH g4 3 _ rfl)) rfl ?_
              exact ⟨rfl, n', vN', vI', _, hn', s4, rel_upd hf b true 1 rfl, k4⟩
            | false =>
              cases good with
              | true =>
                obtain rfl : (⟨false, true, true, 0⟩ : S30) = x := by rw [← hx]; simp [stepB, crF, z30, hb, hfb]
                obtain rfl : upd (upd f b false) b true = f' := by rw [← hf']; simp [stepB, crF, hb, hfb]
                clear hx hf'
                go_enter Tryd.func10, Tryd.ntmps10
                go_wp2_with (first | (go_at_call 21; go_must (refine (cO _ _ _).mono ?_; rintro e w5 ⟨rfl, rfl⟩)) | (go_at_call 22; go_must (refine (cS _ _ _ _).mono ?_; rintro e w6 ⟨rfl, n', vN', vI', hn', hS6, hk6⟩); have q := aS w6 _ _ _ hk6; obtain ⟨q1, q2, q3⟩ := q; have a0 := cellH q3 0 _ rfl; have a1 := cellH q3 1 _ rfl; have a2 := cellH q3 2 _ rfl; have a3 := cellH q3 3 _ rfl; have r0 := cellH q2 0 _ rfl; have r1 := cellH q2 1 _ rfl; have r2 := cellH q2 2 _ rfl; have r3 := cellH q2 3 _ rfl; have z0 := frozenH q2 0; have z1 := frozenH q2 1; have z2 := frozenH q2 2; have z3 := frozenH q2 3; simp only [List.getElem_toArray, List.getElem_cons_succ, List.getElem_cons_zero] at a0 a1 a2 a3 r0 r1 r2 r3))
                obtain ⟨g4, s4, k4⟩ := fin_set h rfl hk6 hS6 q2 (.bool false) (.bool true) (.bool true) (.int .i64 0)
                refine bodyPost_ret (res10 (p := w.heap.size + 1) rfl (cellH g4 0 _ rfl) (cellH g4 1 _ rfl) (cellH g4 2 _ rfl) (cellH g4 3 _ rfl)) rfl ?_
                exact ⟨rfl, n', vN', vI', _, hn', s4, rel_upd (rel_same hf (upd_same hfb)) b true 1 rfl, k4⟩
              | false =>
                obtain rfl : (⟨false, true, true, 1⟩ : S30) = x := by rw [← hx]; simp [stepB, crF, z30, hb, hfb]
                obtain rfl : upd f b false = f' := by rw [← hf']; simp [stepB, crF, hb, hfb]
                clear hx hf'
                go_enter Tryd.func10, Tryd.ntmps10
                go_wp2_with (first | (go_at_call 21; go_must (refine (cO _ _ _).mono ?_; rintro e w5 ⟨rfl, rfl⟩)))
                refine bodyPost_ret (res10 (p := w.heap.size + 1) rfl (cellH (heapR w _ _ _) 0 _ rfl) (cellH (heapR w _ _ _) 1 _ rfl) (cellH (heapR w _ _ _) 2 _ rfl) (cellH (heapR w _ _ _) 3 _ rfl)) rfl ?_
                exact ⟨rfl, n, vN, vI, kv, hn9, ((h.alloc _).alloc _).alloc _, rel_same hf (upd_same hfb), keep3 h _ _ _⟩
  have d3b : (dv == 3) = false := by simp [d3]
  by_cases d4 : dv = 4
  · subst d4
    cases hfb : f b with
    | none =>
      rw [hfb] at cO
      simp only [code] at cO
      cases good with
      | true =>
        obtain rfl : (⟨false, true, false, 0⟩ : S30) = x := by rw [← hx]; simp [stepB, crF, z30, hb, hfb]
        obtain rfl : upd f b false = f' := by rw [← hf']; simp [stepB, crF, hb, hfb]
        clear hx hf'
        go_enter Tryd.func10, Tryd.ntmps10
        go_wp2_with (first | (go_at_call 21; go_must (refine (cO _ _ _).mono ?_; rintro e w5 ⟨rfl, rfl⟩)) | (go_at_call 22; go_must (refine (cS _ _ _ _).mono ?_; rintro e w6 ⟨rfl, n', vN', vI', hn', hS6, hk6⟩); have q := aS w6 _ _ _ hk6; obtain ⟨q1, q2, q3⟩ := q; have a0 := cellH q3 0 _ rfl; have a1 := cellH q3 1 _ rfl; have a2 := cellH q3 2 _ rfl; have a3 := cellH q3 3 _ rfl; have r0 := cellH q2 0 _ rfl; have r1 := cellH q2 1 _ rfl; have r2 := cellH q2 2 _ rfl; have r3 := cellH q2 3 _ rfl; have z0 := frozenH q2 0; have z1 := frozenH q2 1; have z2 := frozenH q2 2; have z3 := frozenH q2 3; simp only [List.getElem_toArray, List.getElem_cons_succ, List.getElem_cons_zero] at a0 a1 a2 a3 r0 r1 r2 r3))
        obtain ⟨g4, s4, k4⟩ := fin_set h rfl hk6 hS6 q2 (.bool false) (.bool true) (.bool false) (.int .i64 0)
        refine bodyPost_ret (res10 (p := w.heap.size + 1) rfl (cellH g4 0 _ rfl) (cellH g4 1 _ rfl) (cellH g4 2 _ rfl) (cellH g4 3 _ rfl)) rfl ?_
        exact ⟨rfl, n', vN', vI', _, hn', s4, rel_upd hf b false 2 rfl, k4⟩
      | false =>
        obtain rfl : (⟨false, true, false, 1⟩ : S30) = x := by rw [← hx]; simp [stepB, crF, z30, hb, hfb]
        obtain rfl : f = f' := by rw [← hf']; simp [stepB, crF, hb, hfb]
        clear hx hf'
        go_enter Tryd.func10, Tryd.ntmps10
        go_wp2_with (first | (go_at_call 21; go_must (refine (cO _ _ _).mono ?_; rintro e w5 ⟨rfl, rfl⟩)))
        refine bodyPost_ret (res10 (p := w.heap.size + 1) rfl (cellH (heapR w _ _ _) 0 _ rfl) (cellH (heapR w _ _ _) 1 _ rfl) (cellH (heapR w _ _ _) 2 _ rfl) (cellH (heapR w _ _ _) 3 _ rfl)) rfl ?_
        exact ⟨rfl, n, vN, vI, kv, hn9, ((h.alloc _).alloc _).alloc _, hf, keep3 h _ _ _⟩
    | some v =>
      rw [hfb] at cO
      cases v with
      | true =>
        simp only [code] at cO
        cases good with
        | true =>
          obtain rfl : (⟨false, true, false, 0⟩ : S30) = x := by rw [← hx]; simp [stepB, crF, z30, hb, hfb]
          obtain rfl : upd f b false = f' := by rw [← hf']; simp [stepB, crF, hb, hfb]
          clear hx hf'
          go_enter Tryd.func10, Tryd.ntmps10
          go_wp2_with (first | (go_at_call 21; go_must (refine (cO _ _ _).mono ?_; rintro e w5 ⟨rfl, rfl⟩)) | (go_at_call 22; go_must (refine (cS _ _ _ _).mono ?_; rintro e w6 ⟨rfl, n', vN', vI', hn', hS6, hk6⟩); have q := aS w6 _ _ _ hk6; obtain ⟨q1, q2, q3⟩ := q; have a0 := cellH q3 0 _ rfl; have a1 := cellH q3 1 _ rfl; have a2 := cellH q3 2 _ rfl; have a3 := cellH q3 3 _ rfl; have r0 := cellH q2 0 _ rfl; have r1 := cellH q2 1 _ rfl; have r2 := cellH q2 2 _ rfl; have r3 := cellH q2 3 _ rfl; have z0 := frozenH q2 0; have z1 := frozenH q2 1; have z2 := frozenH q2 2; have z3 := frozenH q2 3; simp only [List.getElem_toArray, List.getElem_cons_succ, List.getElem_cons_zero] at a0 a1 a2 a3 r0 r1 r2 r3))
          obtain ⟨g4, s4, k4⟩ := fin_set h rfl hk6 hS6 q2 (.bool false) (.bool true) (.bool false) (.int .i64 0)
          refine bodyPost_ret (res10 (p := w.heap.size + 1) rfl (cellH g4 0 _ rfl) (cellH g4 1 _ rfl) (cellH g4 2 _ rfl) (cellH g4 3 _ rfl)) rfl ?_
          exact ⟨rfl, n', vN', vI', _, hn', s4, rel_upd hf b false 2 rfl, k4⟩
        | false =>
          obtain rfl : (⟨false, true, false, 1⟩ : S30) = x := by rw [← hx]; simp [stepB, crF, z30, hb, hfb]
          obtain rfl : f = f' := by rw [← hf']; simp [stepB, crF, hb, hfb]
          clear hx hf'
          go_enter Tryd.func10, Tryd.ntmps10
          go_wp2_with (first | (go_at_call 21; go_must (refine (cO _ _ _).mono ?_; rintro e w5 ⟨rfl, rfl⟩)))
          refine bodyPost_ret (res10 (p := w.heap.size + 1) rfl (cellH (heapR w _ _ _) 0 _ rfl) (cellH (heapR w _ _ _) 1 _ rfl) (cellH (heapR w _ _ _) 2 _ rfl) (cellH (heapR w _ _ _) 3 _ rfl)) rfl ?_
          exact ⟨rfl, n, vN, vI, kv, hn9, ((h.alloc _).alloc _).alloc _, hf, keep3 h _ _ _⟩
      | false =>
        simp only [code] at cO
        obtain rfl : (⟨false, false, false, 3⟩ : S30) = x := by rw [← hx]; simp [stepB, crF, z30, hb, hfb]
        obtain rfl : f = f' := by rw [← hf']; simp [stepB, crF, hb, hfb]
        clear hx hf'
        go_enter Tryd.func10, Tryd.ntmps10
        go_wp2_with (first | (go_at_call 21; go_must (refine (cO _ _ _).mono ?_; rintro e w5 ⟨rfl, rfl⟩)))
        refine bodyPost_ret (res10 (p := w.heap.size + 1) rfl (cellH (heapR w _ _ _) 0 _ rfl) (cellH (heapR w _ _ _) 1 _ rfl) (cellH (heapR w _ _ _) 2 _ rfl) (cellH (heapR w _ _ _) 3 _ rfl)) rfl ?_
        exact ⟨rfl, n, vN, vI, kv, hn9, ((h.alloc _).alloc _).alloc _, hf, keep3 h _ _ _⟩
  have d4b : (dv == 4) = false := by simp [d4]
  obtain rfl : (⟨false, false, false, 0⟩ : S30) = x := by rw [← hx]; simp [stepB, crF, z30, d0, d1, d2, d3, d4]
  obtain rfl : f = f' := by rw [← hf']; simp [stepB, crF, d0, d1, d2, d3, d4]
  clear hx hf'
  go_enter Tryd.func10, Tryd.ntmps10
  go_wp2_with (first | (go_at_call 21; go_must (refine (cO _ _ _).mono ?_; rintro e w5 ⟨rfl, rfl⟩)))
  refine bodyPost_ret (res10 (p := w.heap.size + 1) rfl (cellH (heapR w _ _ _) 0 _ rfl) (cellH (heapR w _ _ _) 1 _ rfl) (cellH (heapR w _ _ _) 2 _ rfl) (cellH (heapR w _ _ _) 3 _ rfl)) rfl ?_
  exact ⟨rfl, n, vN, vI, kv, hn9, ((h.alloc _).alloc _).alloc _, hf, keep3 h _ _ _⟩
end Go.Proofs.YtcomnkbkkpeilaaDoor.Given
