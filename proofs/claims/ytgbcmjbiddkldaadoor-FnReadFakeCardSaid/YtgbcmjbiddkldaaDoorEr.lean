/- Errors as values: nil, io.EOF (what its variable holds), the inner reader's own, another one; what readKind answers of each. -/
import Derived.Test.YtgbcmjbiddkldaaDoorPRxk
import Derived.LaidEql
import Derived.Lib.Hide
import Derived.Lib.OthersKept
import Derived.Deep.DeepMust
namespace Go.Proofs.YtgbcmjbiddkldaaDoor.Given
open Go.RowKit Go.Proofs.YtgbcmjbiddkldaaDoorW.PrintWords Go.Proofs.YtgbcmjbiddkldaaDoor.PR
set_option linter.unusedVariables false
set_option linter.unusedSimpArgs false

theorem cellH {w : World} {g : Nat} {cs : Array Value} {t : TypeId} (h : w.heap[g]? = some (.cells cs t (0, 0))) (j : Nat) (v : Value) (hj : cs[j]? = some v) : w.cell? ⟨g, j, none⟩ = some v := by
  simp [World.cell?, h, hj]
theorem frozenH {w : World} {g : Nat} {cs : Array Value} {t : TypeId} (h : w.heap[g]? = some (.cells cs t (0, 0))) (j : Nat) : w.frozen? ⟨g, j, none⟩ = false := by
  simp [World.frozen?, h]
theorem setH {w : World} {g : Nat} {cs : Array Value} {t : TypeId} (h : w.heap[g]? = some (.cells cs t (0, 0))) (j : Nat) (v : Value) (hj : j < cs.size) : (w.setCell ⟨g, j, none⟩ v).heap[g]? = some (.cells (cs.set j v hj) t (0, 0)) := by
  obtain ⟨hlt, he⟩ := Array.getElem?_eq_some_iff.1 h
  simp [World.setCell, he, hlt, Array.getElem?_modify, Array.getElem_modify, Array.setIfInBounds, hj]
theorem neT {w : World} {g h : Nat} {c d : Array Value} {t u : TypeId} (h1 : w.heap[g]? = some (.cells c t (0, 0))) (h2 : w.heap[h]? = some (.cells d u (0, 0))) (hne : t ≠ u) : g ≠ h := by
  rintro rfl
  rw [h1] at h2
  injection h2 with h2
  injection h2 with _ h3 _
  exact hne h3
theorem ltH {w : World} {g : Nat} {o : Obj} (h : w.heap[g]? = some o) : g < w.heap.size := (Array.getElem?_eq_some_iff.1 h).1

def evA (a : Addr) : Value := .iface 94 (.pointer (some a))
def ownV : Value := .iface 90 (.agg #[])
/-- Block g holds cells. -/
def ErrAny (w : World) (g : Nat) : Prop := ∃ c t, w.heap[g]? = some (.cells c t (0, 0))
theorem ErrAny.kept {w w' : World} {g : Nat} (h : ErrAny w g) (hb : w'.heap[g]? = w.heap[g]?) : ErrAny w' g := by
  obtain ⟨c, t, hc⟩ := h
  exact ⟨c, t, hb.trans hc⟩
theorem ErrAny.lt {w : World} {g : Nat} (h : ErrAny w g) : g < w.heap.size := by
  obtain ⟨c, t, hc⟩ := h
  exact ltH hc
/-- The variable io.EOF holds the error at a. -/
structure LaidE (w : World) (a : Addr) (M : Nat) : Prop where
  any : ErrAny w a.block
  cell : w.cell? ⟨0, 0, none⟩ = some (evA a)
  lo : a.block < M
  pos : 0 < M
  le : M ≤ w.heap.size
theorem LaidE.below {w w' : World} {a : Addr} {M : Nat} (h : LaidE w a M) (hk : ∀ k, k < M → w'.heap[k]? = w.heap[k]?) (hs : w.heap.size ≤ w'.heap.size) : LaidE w' a M := by
  refine ⟨h.any.kept (hk _ h.lo), ?_, h.lo, h.pos, Nat.le_trans h.le hs⟩
  have := hk 0 h.pos
  have h2 := h.cell
  unfold World.cell? at h2 ⊢
  simp only at h2 ⊢
  rw [this]
  exact h2

theorem info94 : ∃ i, Tryd.prog.info? 94 = some i ∧ i.comparable = true := by
  have : (Tryd.prog.info? 94).map (·.comparable) = some true := by kernel_rfl
  obtain ⟨i, h1, h2⟩ := Option.map_eq_some_iff.1 this
  exact ⟨i, h1, h2⟩
theorem info115 : ∃ i, Tryd.prog.info? 115 = some i ∧ i.size ≠ 0 := by
  have : (Tryd.prog.info? 115).map (·.size) = some 1 := by kernel_rfl
  obtain ⟨i, h1, h2⟩ := Option.map_eq_some_iff.1 this
  exact ⟨i, h1, by omega⟩
theorem evA_same (a : Addr) (w : World) : (binOp .eql 64 (evA a) (evA a)).run Tryd.prog w = .ok (.bool true) w := by
  obtain ⟨i, hi, hc⟩ := info94
  obtain ⟨j, hj, _⟩ := info115
  exact run_eql_iface_ptr_same w a Tryd.underlying64 Tryd.underlying94 hi hc hj
theorem evA_other {a b : Addr} {w : World} (hne : a ≠ b) (ha : ErrAny w a.block) (hb : ErrAny w b.block) : (binOp .eql 64 (evA b) (evA a)).run Tryd.prog w = .ok (.bool false) w := by
  obtain ⟨i, hi, hc⟩ := info94
  obtain ⟨j, hj, hz⟩ := info115
  obtain ⟨ca, ta, ha⟩ := ha
  obtain ⟨cb, tb, hb⟩ := hb
  exact run_eql_iface_ptr_other w Tryd.underlying64 Tryd.underlying94 hi hc hj hz (fun e => hne e.symm) hb ha
theorem evA_nil (a : Addr) (w : World) : (binOp .eql 64 (evA a) .nilIface).run Tryd.prog w = .ok (.bool false) w := by
  kernel_rfl
theorem own_nilE (w : World) : (binOp .eql 64 ownV .nilIface).run Tryd.prog w = .ok (.bool false) w := by
  kernel_rfl
theorem own_ev (a : Addr) (w : World) : (binOp .eql 64 ownV (evA a)).run Tryd.prog w = .ok (.bool false) w := by
  kernel_rfl
theorem ev_own (a : Addr) (w : World) : (binOp .eql 64 (evA a) ownV).run Tryd.prog w = .ok (.bool false) w := by
  kernel_rfl
theorem own_own (w : World) : (binOp .eql 64 ownV ownV).run Tryd.prog w = .ok (.bool true) w := by
  kernel_rfl
theorem nil_nil (w : World) : (binOp .eql 64 .nilIface .nilIface).run Tryd.prog w = .ok (.bool true) w := by
  kernel_rfl
theorem errNew (s : ByteArray) (w : World) : Calls Tryd.prog 48 #[.string s] w fun e w' => ∃ g, e = .returned (evA ⟨g, 0, none⟩) ∧ w.heap.size ≤ g ∧ ErrAny w' g ∧ Below w.heap.size w w' := by
  go_enter Tryd.func48, Tryd.ntmps48
  go_wp2
  go_ret
  exact ⟨_, rfl, Nat.le_refl _, ⟨_, _, (MapKept.heap_alloc w _).1⟩, (Below.refl _ _).alloc (Nat.le_refl _) _⟩

/-- The value of an error of a kind (0 none, 1 io.EOF, 2 the own, 3 another). -/
def ErrV (w : World) (a : Addr) (M : Nat) (x : Int) (v : Value) : Prop :=
  (x = 0 ∧ v = .nilIface) ∨ (x = 1 ∧ v = evA a) ∨ (x = 2 ∧ v = ownV) ∨ (x = 3 ∧ ∃ g, v = evA ⟨g, 0, none⟩ ∧ M ≤ g ∧ ErrAny w g)
/-- The same for the kinds 0 to 2: no world is spoken of. -/
def ErrS (a : Addr) (x : Int) (v : Value) : Prop := (x = 0 ∧ v = .nilIface) ∨ (x = 1 ∧ v = evA a) ∨ (x = 2 ∧ v = ownV)
theorem ErrS.toV {a : Addr} {x : Int} {v : Value} (h : ErrS a x v) (w : World) (M : Nat) : ErrV w a M x v := by
  rcases h with h | h | h
  · exact .inl h
  · exact .inr (.inl h)
  · exact .inr (.inr (.inl h))
set_option maxHeartbeats 1000000 in
theorem kind_any (w : World) (a : Addr) (M : Nat) (x : Int) (v : Value) (hL : LaidE w a M) (h : ErrV w a M x v) :
    Calls Tryd.prog 26 #[v] w fun e w' => e = .returned (.int .i64 x) ∧ w' = w := by
  have hc := hL.cell
  have q1 := evA_nil
  have q2 := own_nilE
  have q3 := nil_nil
  have q4 := evA_same
  have q5 := own_ev
  have q6 := ev_own
  have q7 := own_own
  unfold ownV at q2 q5 q6 q7
  unfold evA at q1 q4 q5 q6 hc
  rcases h with ⟨rfl, rfl⟩ | ⟨rfl, rfl⟩ | ⟨rfl, rfl⟩ | ⟨rfl, g, rfl, hg, hE⟩
  · go_enter Tryd.func26, Tryd.ntmps26
    go_wp2
    go_ret
    exact ⟨rfl, rfl⟩
  · unfold evA
    go_enter Tryd.func26, Tryd.ntmps26
    go_wp2
    go_ret
    exact ⟨rfl, rfl⟩
  · unfold ownV
    go_enter Tryd.func26, Tryd.ntmps26
    go_wp2
    go_ret
    exact ⟨rfl, rfl⟩
  · have q8 := evA_other (a := a) (b := ⟨g, 0, none⟩) (w := w) (fun e => by have := hL.lo; rw [e] at this; simp at this; omega) hL.any hE
    unfold evA at q8 ⊢
    go_enter Tryd.func26, Tryd.ntmps26
    go_wp2
    go_ret
    exact ⟨rfl, rfl⟩
end Go.Proofs.YtgbcmjbiddkldaaDoor.Given
