/- The contracts of a bucket cache's methods, over maps as functions; keys of at most 1,000,000 bytes, at most 1,000,000 stores. -/
import Derived.Test.YtcomnkbkkpeilaaDoorMp
namespace Go.Proofs.YtcomnkbkkpeilaaDoor.Given
open Go.RowKit Go.WideMaps Go.Maps
set_option linter.unusedVariables false
set_option linter.unusedSimpArgs false

theorem cellH {w : World} {g : Nat} {cs : Array Value} {t : TypeId} (h : w.heap[g]? = some (.cells cs t (0, 0))) (j : Nat) (v : Value) (hj : cs[j]? = some v) : w.cell? ⟨g, j, none⟩ = some v := by
  simp [World.cell?, h, hj]
theorem frozenH {w : World} {g : Nat} {cs : Array Value} {t : TypeId} (h : w.heap[g]? = some (.cells cs t (0, 0))) (j : Nat) : w.frozen? ⟨g, j, none⟩ = false := by
  simp [World.frozen?, h]
theorem setH {w : World} {g : Nat} {cs : Array Value} {t : TypeId} (h : w.heap[g]? = some (.cells cs t (0, 0))) (j : Nat) (v : Value) (hj : j < cs.size) : (w.setCell ⟨g, j, none⟩ v).heap[g]? = some (.cells (cs.set j v hj) t (0, 0)) := by
  obtain ⟨hlt, he⟩ := Array.getElem?_eq_some_iff.1 h
  simp [World.setCell, he, hlt, Array.getElem?_modify, Array.getElem_modify, Array.setIfInBounds, hj]

theorem e_ne {b : ByteArray} (h : b ≠ ⟨#[]⟩) : (b.toList == ([] : List UInt8)) = false := by
  rw [beq_eq_false_iff_ne]
  intro e
  apply h
  rw [ByteArray.toList_eq] at e
  exact ByteArray.ext (by rw [← Array.toList_inj]; simpa using e)
theorem e_ne' {b : ByteArray} (h : b ≠ ⟨#[]⟩) : (b.toList != ([] : List UInt8)) = true := by
  unfold bne
  rw [e_ne h]; rfl

set_option maxHeartbeats 400000 in
theorem isDel (gC m n : Nat) (f : ByteArray → Option Bool) (b : ByteArray) (w : World) (hC : w.heap[gC]? = some (.cells #[.map (some m)] 55 (0, 0))) (hM : MapOf w m n f) (hb : b.size ≤ 1000000) :
    Calls Tryd.prog 18 #[.pointer (some ⟨gC, 0, none⟩), .string b] w fun e w' => e = .returned (.bool (f b == some false)) ∧ w' = w := by
  have h1 := cellH hC 0 _ rfl
  have h2 := hM.look b hb
  obtain ⟨d, hd⟩ : ∃ d, f b = d := ⟨_, rfl⟩
  rw [hd] at h2 ⊢
  cases d with
  | none =>
    simp only [Option.isSome_none, Option.getD_none] at h2
    go_enter Tryd.func18, Tryd.ntmps18
    go_wp2
    go_ret
    exact ⟨rfl, rfl⟩
  | some v =>
    simp only [Option.isSome_some, Option.getD_some] at h2
    go_enter Tryd.func18, Tryd.ntmps18
    go_wp2
    go_ret
    exact ⟨by cases v <;> rfl, rfl⟩

theorem e_em {b : ByteArray} (h : b ≠ ⟨#[]⟩) : b.toList.isEmpty = false := by
  have := e_ne h
  cases hl : b.toList with
  | nil => rw [hl] at this; cases this
  | cons x r => rfl

set_option maxHeartbeats 400000 in
theorem markOK (gC m n : Nat) (f : ByteArray → Option Bool) (b : ByteArray) (w : World) (hC : w.heap[gC]? = some (.cells #[.map (some m)] 55 (0, 0))) (hM : MapOf w m n f) (hn : n ≤ 1000000) (hb : b.size ≤ 1000000) (hne : b ≠ ⟨#[]⟩) :
    Calls Tryd.prog 16 #[.pointer (some ⟨gC, 0, none⟩), .string b] w fun e w' => e = .returned (.tuple #[]) ∧ MapOf w' m (n + 1) (upd f b true) ∧ w.grownBy w' (some m) := by
  have h1 := cellH hC 0 _ rfl
  obtain ⟨w1, h2, h3, h4⟩ := hM.upd hn b hb true
  have e1 := e_em hne
  go_enter Tryd.func16, Tryd.ntmps16
  go_wp2
  go_end0
  exact ⟨rfl, h3, h4⟩
set_option maxHeartbeats 400000 in
theorem markDel (gC m n : Nat) (f : ByteArray → Option Bool) (b : ByteArray) (w : World) (hC : w.heap[gC]? = some (.cells #[.map (some m)] 55 (0, 0))) (hM : MapOf w m n f) (hn : n ≤ 1000000) (hb : b.size ≤ 1000000) (hne : b ≠ ⟨#[]⟩) :
    Calls Tryd.prog 17 #[.pointer (some ⟨gC, 0, none⟩), .string b] w fun e w' => e = .returned (.tuple #[]) ∧ MapOf w' m (n + 1) (upd f b false) ∧ w.grownBy w' (some m) := by
  have h1 := cellH hC 0 _ rfl
  obtain ⟨w1, h2, h3, h4⟩ := hM.upd hn b hb false
  have e1 := e_em hne
  go_enter Tryd.func17, Tryd.ntmps17
  go_wp2
  go_end0
  exact ⟨rfl, h3, h4⟩
set_option maxHeartbeats 400000 in
theorem markNo (c : Value) (w : World) : Calls Tryd.prog 16 #[c, .string ⟨#[]⟩] w fun e w' => e = .returned (.tuple #[]) ∧ w' = w := by
  have e1 : (⟨#[]⟩ : ByteArray).toList.isEmpty = true := by rw [ByteArray.toList_eq]; rfl
  go_enter Tryd.func16, Tryd.ntmps16
  go_wp2
  go_end0
  exact ⟨rfl, rfl⟩
set_option maxHeartbeats 400000 in
theorem markNo' (c : Value) (w : World) : Calls Tryd.prog 17 #[c, .string ⟨#[]⟩] w fun e w' => e = .returned (.tuple #[]) ∧ w' = w := by
  have e1 : (⟨#[]⟩ : ByteArray).toList.isEmpty = true := by rw [ByteArray.toList_eq]; rfl
  go_enter Tryd.func17, Tryd.ntmps17
  go_wp2
  go_end0
  exact ⟨rfl, rfl⟩

def ev (g : Nat) : Value := .iface 56 (.pointer (some ⟨g, 0, none⟩))
/-- What lies in a step's world: the cache, its map, the answer, the step, the two errors. -/
structure Env (w : World) (gC m n A S b4 b5 g1 g2 : Nat) (f : ByteArray → Option Bool) (dv : Int) (b : ByteArray) (good asks found fails dl ca as_ : Bool) (er : Int) : Prop where
  hC : w.heap[gC]? = some (.cells #[.map (some m)] 55 (0, 0))
  hM : MapOf w m n f
  hA : w.heap[A]? = some (.cells #[.bool dl, .bool ca, .bool as_, .int .i64 er] 30 (0, 0))
  hS : w.heap[S]? = some (.cells #[.int .i64 dv, .string b, .bool good, .bool asks, .bool found, .bool fails] 28 (0, 0))
  h4 : w.heap[b4]? = some (.cells #[ev g1] 41 (0, 0))
  h5 : w.heap[b5]? = some (.cells #[ev g2] 41 (0, 0))

theorem neT {w : World} {g h : Nat} {c d : Array Value} {t u : TypeId} (h1 : w.heap[g]? = some (.cells c t (0, 0))) (h2 : w.heap[h]? = some (.cells d u (0, 0))) (hne : t ≠ u) : g ≠ h := by
  rintro rfl
  rw [h1] at h2
  injection h2 with h2
  injection h2 with _ h3 _
  exact hne h3
theorem neM {w : World} {m n h : Nat} {f : ByteArray → Option Bool} {d : Array Value} {u : TypeId} (h1 : MapOf w m n f) (h2 : w.heap[h]? = some (.cells d u (0, 0))) : h ≠ m := by
  rintro rfl
  obtain ⟨D, ⟨es, c, h3, _⟩, _⟩ := h1
  rw [h3] at h2
  cases h2
theorem ltH {w : World} {g : Nat} {o : Obj} (h : w.heap[g]? = some o) : g < w.heap.size := (Array.getElem?_eq_some_iff.1 h).1

section
variable {w : World} {gC m n A S b4 b5 g1 g2 : Nat} {f : ByteArray → Option Bool} {dv : Int} {b : ByteArray} {good asks found fails dl ca as_ : Bool} {er : Int}
theorem Env.set (h : Env w gC m n A S b4 b5 g1 g2 f dv b good asks found fails dl ca as_ er) (j : Nat) (v : Value) (hj : j < 4) (dl' ca' as' : Bool) (er' : Int)
    (he : (#[.bool dl, .bool ca, .bool as_, .int .i64 er] : Array Value).set j v hj = #[.bool dl', .bool ca', .bool as', .int .i64 er']) :
    Env (w.setCell ⟨A, j, none⟩ v) gC m n A S b4 b5 g1 g2 f dv b good asks found fails dl' ca' as' er' := by
  have s := fun k (hk : k ≠ A) => Below.heap_setCell w ⟨A, j, none⟩ v k hk
  refine ⟨(s _ (neT h.hC h.hA (by decide))).trans h.hC, h.hM.kept (s _ (neM h.hM h.hA).symm), ?_, (s _ (neT h.hS h.hA (by decide))).trans h.hS, (s _ (neT h.h4 h.hA (by decide))).trans h.h4, (s _ (neT h.h5 h.hA (by decide))).trans h.h5⟩
  rw [setH h.hA j v hj, he]
theorem Env.put (h : Env w gC m n A S b4 b5 g1 g2 f dv b good asks found fails dl ca as_ er) {w' : World} {n' : Nat} {f' : ByteArray → Option Bool} (hM : MapOf w' m n' f') (hg : w.grownBy w' (some m)) :
    Env w' gC m n' A S b4 b5 g1 g2 f' dv b good asks found fails dl ca as_ er := by
  have s := fun k (h1 : k < w.heap.size) (hk : k ≠ m) => hg.block k h1 (fun e => hk (Option.some.inj e))
  exact ⟨(s _ (ltH h.hC) (neM h.hM h.hC)).trans h.hC, hM, (s _ (ltH h.hA) (neM h.hM h.hA)).trans h.hA, (s _ (ltH h.hS) (neM h.hM h.hS)).trans h.hS, (s _ (ltH h.h4) (neM h.hM h.h4)).trans h.h4, (s _ (ltH h.h5) (neM h.hM h.h5)).trans h.h5⟩
theorem Env.drewN (h : Env w gC m n A S b4 b5 g1 g2 f dv b good asks found fails dl ca as_ er) (q : Nat) : Env (w.drewN q) gC m n A S b4 b5 g1 g2 f dv b good asks found fails dl ca as_ er :=
  ⟨h.hC, h.hM.kept rfl, h.hA, h.hS, h.h4, h.h5⟩
theorem Env.mono (h : Env w gC m n A S b4 b5 g1 g2 f dv b good asks found fails dl ca as_ er) {n' : Nat} (hn : n ≤ n') : Env w gC m n' A S b4 b5 g1 g2 f dv b good asks found fails dl ca as_ er :=
  ⟨h.hC, h.hM.mono hn, h.hA, h.hS, h.h4, h.h5⟩

set_option maxHeartbeats 400000 in
theorem clos14 (h : Env w gC m n A S b4 b5 g1 g2 f dv b good asks found fails dl ca as_ er) :
    Calls Tryd.prog 14 #[.pointer (some ⟨A, 0, none⟩), .pointer (some ⟨S, 0, none⟩), .pointer (some ⟨b4, 0, none⟩)] w fun e w' => e = .returned (if good then .nilIface else ev g1) ∧ w' = w.setCell ⟨A, 1, none⟩ (.bool true) := by
  have h' := h.set 1 (.bool true) (by omega) dl true as_ er rfl
  have c1 := cellH h.hA 1 _ rfl
  have c2 := frozenH h.hA 1
  have c3 := cellH h'.hS 2 _ rfl
  have c4 := cellH h'.h4 0 _ rfl
  unfold ev at c4 ⊢
  cases good with
  | true =>
    go_enter Tryd.func14, Tryd.ntmps14
    go_wp2
    go_ret
    exact ⟨rfl, rfl⟩
  | false =>
    go_enter Tryd.func14, Tryd.ntmps14
    go_wp2
    go_ret
    exact ⟨rfl, rfl⟩
set_option maxHeartbeats 400000 in
theorem clos15 (h : Env w gC m n A S b4 b5 g1 g2 f dv b good asks found fails dl ca as_ er) :
    Calls Tryd.prog 15 #[.pointer (some ⟨A, 0, none⟩), .pointer (some ⟨S, 0, none⟩), .pointer (some ⟨b5, 0, none⟩)] w fun e w' => e = .returned (.tuple #[.bool found, if fails then ev g2 else .nilIface]) ∧ ∃ q, w' = (w.setCell ⟨A, 2, none⟩ (.bool true)).drewN q := by
  have h' := h.set 2 (.bool true) (by omega) dl ca true er rfl
  have c1 := cellH h.hA 2 _ rfl
  have c2 := frozenH h.hA 2
  have c3 := cellH h'.hS 5 _ rfl
  have c4 := cellH h'.h5 0 _ rfl
  have c5 := cellH h'.hS 4 _ rfl
  unfold ev at c4 ⊢
  cases fails with
  | true =>
    go_enter Tryd.func15, Tryd.ntmps15
    go_wp2
    go_region
    all_goals go_wp2
    all_goals go_ret2
    all_goals exact ⟨rfl, _, rfl⟩
  | false =>
    go_enter Tryd.func15, Tryd.ntmps15
    go_wp2
    go_ret2
    exact ⟨rfl, 0, rfl⟩
end
end Go.Proofs.YtcomnkbkkpeilaaDoor.Given
