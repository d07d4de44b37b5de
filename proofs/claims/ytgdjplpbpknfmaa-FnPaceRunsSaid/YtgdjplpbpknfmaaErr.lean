/- The contracts of the walk along an error that unwraps (liberrors.Walk) and of IsRetryAfter, at nil, at a plain error, and at one that tells how long to wait, wrapped any number of times. -/
import Derived.Test.YtgdjplpbpknfmaaProg
import Derived.WalkKit
import Derived.WalkSpells
import Derived.WalkLawsBesides
import Derived.Lib.OthersKept
import Derived.Lib.Hide
import Derived.KernelRfl
import Derived.Stop.Asserts
import Derived.Deep.LoopGhost
namespace Go.Proofs.Ytgdjplpbpknfmaa.Given
open Go.RowKit

theorem ta_74_94 (x : Value) (w : World) : (Instr.typeAssert (.iface 74 x) 44 94 true).run Try.prog w = .ok (.tuple #[.nilIface, .bool false]) w := run_typeAssert_lacksB Try.underlying94 (by kernel_rfl) (by kernel_rfl) x 44 w
theorem ta_74_98 (x : Value) (w : World) : (Instr.typeAssert (.iface 74 x) 44 98 true).run Try.prog w = .ok (.tuple #[.nilIface, .bool false]) w := run_typeAssert_lacksB Try.underlying98 (by kernel_rfl) (by kernel_rfl) x 44 w
theorem ta_74_101 (x : Value) (w : World) : (Instr.typeAssert (.iface 74 x) 44 101 true).run Try.prog w = .ok (.tuple #[.iface 74 x, .bool true]) w := by kernel_rfl
theorem ta_75_94 (x : Value) (w : World) : (Instr.typeAssert (.iface 75 x) 44 94 true).run Try.prog w = .ok (.tuple #[.nilIface, .bool false]) w := run_typeAssert_lacksB Try.underlying94 (by kernel_rfl) (by kernel_rfl) x 44 w
theorem ta_75_98 (x : Value) (w : World) : (Instr.typeAssert (.iface 75 x) 44 98 true).run Try.prog w = .ok (.tuple #[.nilIface, .bool false]) w := run_typeAssert_lacksB Try.underlying98 (by kernel_rfl) (by kernel_rfl) x 44 w
theorem ta_75_101 (x : Value) (w : World) : (Instr.typeAssert (.iface 75 x) 44 101 true).run Try.prog w = .ok (.tuple #[.nilIface, .bool false]) w := run_typeAssert_lacksB Try.underlying101 (by kernel_rfl) (by kernel_rfl) x 44 w
theorem ta_74_83 (x : Value) (w : World) : (Instr.typeAssert (.iface 74 x) 44 83 true).run Try.prog w = .ok (.tuple #[.pointer none, .bool false]) w := by kernel_rfl
theorem ta_75_83 (x : Value) (w : World) : (Instr.typeAssert (.iface 75 x) 44 83 true).run Try.prog w = .ok (.tuple #[.pointer none, .bool false]) w := by kernel_rfl
theorem ta_83_83 (x : Value) (w : World) : (Instr.typeAssert (.iface 83 x) 44 83 true).run Try.prog w = .ok (.tuple #[x, .bool true]) w := by kernel_rfl

/-- v is an error that tells to wait t, wrapped n times more. -/
def Chain (w : World) : Nat → Int → Value → Prop
  | 0, t, v => ∃ g e, v = .iface 83 (.pointer (some ⟨g, 0, none⟩)) ∧ w.heap[g]? = some (.cells #[e, .int .i64 t] 86 (0, 0))
  | n + 1, t, v => ∃ v', v = .iface 74 (.agg #[v']) ∧ Chain w n t v'
theorem Chain.below {w w' : World} (h : Below w.heap.size w w') {t : Int} : ∀ {n : Nat} {v : Value}, Chain w n t v → Chain w' n t v
  | 0, v, ⟨g, e, hv, hg⟩ => ⟨g, e, hv, by rw [h.block g (Array.getElem?_eq_some_iff.1 hg).1]; exact hg⟩
  | n + 1, v, ⟨v', hv, hc⟩ => ⟨v', hv, Chain.below h hc⟩

set_option maxHeartbeats 400000 in
theorem walk_nil (f : Value) (w : World) :
    Calls Try.prog 32 #[.nilIface, f] w fun e w' => e = .returned (.tuple #[]) ∧ w = w' := by
  go_enter Try.func32, Try.ntmps32
  go_wp2
  refine wp_loop_rounds 1 ?_
  rw [rounds_succ]
  go_wp2
  go_end0
  exact ⟨rfl, rfl⟩
set_option maxHeartbeats 400000 in
theorem unwr_any (x : Value) (w : World) :
    Calls Try.prog 63 #[.agg #[x]] w fun e w' => e = .returned x ∧ Below w.heap.size w w' := by
  go_enter Try.func63, Try.ntmps63
  go_wp2
  go_ret
  exact ⟨rfl, (Below.refl _ _).alloc (Nat.le_refl _) _⟩
set_option maxHeartbeats 400000 in
theorem clos_75 (x p1 p2 : Value) (w : World) :
    Calls Try.prog 33 #[.iface 75 x, p1, p2] w fun e w' => e = .returned (.bool false) ∧ w = w' := by
  have h1 := ta_75_83
  go_enter Try.func33, Try.ntmps33
  go_wp2
  go_ret
  exact ⟨rfl, rfl⟩
set_option maxHeartbeats 400000 in
theorem clos_74 (x p1 p2 : Value) (w : World) :
    Calls Try.prog 33 #[.iface 74 x, p1, p2] w fun e w' => e = .returned (.bool false) ∧ w = w' := by
  have h1 := ta_74_83
  go_enter Try.func33, Try.ntmps33
  go_wp2
  go_ret
  exact ⟨rfl, rfl⟩
set_option maxHeartbeats 400000 in
theorem clos_83 (g b1 b2 : Nat) (t : Int) (x1 x2 : Value) (w : World) (hg : w.cell? ⟨g, 1, none⟩ = some (.int .i64 t))
    (h1 : w.cell? ⟨b1, 0, none⟩ = some x1) (f1 : w.frozen? ⟨b1, 0, none⟩ = false) (h2 : w.cell? ⟨b2, 0, none⟩ = some x2) (f2 : w.frozen? ⟨b2, 0, none⟩ = false) (hne : b1 ≠ b2) :
    Calls Try.prog 33 #[.iface 83 (.pointer (some ⟨g, 0, none⟩)), .pointer (some ⟨b1, 0, none⟩), .pointer (some ⟨b2, 0, none⟩)] w fun e w' => e = .returned (.bool true) ∧
      w' = (w.setCell ⟨b1, 0, none⟩ (.int .i64 t)).setCell ⟨b2, 0, none⟩ (.bool true) := by
  have h1 := ta_83_83
  go_enter Try.func33, Try.ntmps33
  go_wp2
  go_ret
  exact ⟨rfl, rfl⟩
set_option maxHeartbeats 400000 in
theorem walk_75 (x p1 p2 : Value) (w : World) :
    Calls Try.prog 32 #[.iface 75 x, .func (.func 33) #[] #[p1, p2]] w fun e w' => e = .returned (.tuple #[]) ∧ w = w' := by
  have h2 := ta_75_94
  have h3 := ta_75_98
  have h4 := ta_75_101
  go_enter Try.func32, Try.ntmps32
  go_wp2
  refine wp_loop_rounds 1 ?_
  rw [rounds_succ]
  go_wp2_with (go_at_call 33; refine (clos_75 _ _ _ _).mono ?_; rintro e w' ⟨rfl, rfl⟩)
  refine bodyPost_ret (results_none rfl _ _ _) rfl ?_
  exact ⟨rfl, rfl⟩

def Set2 (w : World) (b1 b2 : Nat) (t : Int) (e : Ending) (w' : World) : Prop :=
  e = .returned (.tuple #[]) ∧ ∃ wr, Below w.heap.size w wr ∧ w' = (wr.setCell ⟨b1, 0, none⟩ (.int .i64 t)).setCell ⟨b2, 0, none⟩ (.bool true)

theorem na_74 (x : Value) (w : World) : (nilAhead 225 74 (.agg #[x]) "Unwrap").run Try.prog w = .ok (some false) w := by kernel_rfl
theorem md_74 (x : Value) (w : World) : (method 225 74 (.agg #[x]) "Unwrap").run Try.prog w = .ok (63, .agg #[x]) w := by kernel_rfl

set_option maxRecDepth 100000 in
set_option maxHeartbeats 1000000 in
theorem walk_chain (n : Nat) (t : Int) (v : Value) (b1 b2 : Nat) (x1 x2 : Value) (w : World) (hC : Chain w n t v)
    (h1 : w.cell? ⟨b1, 0, none⟩ = some x1) (f1 : w.frozen? ⟨b1, 0, none⟩ = false) (h2 : w.cell? ⟨b2, 0, none⟩ = some x2) (f2 : w.frozen? ⟨b2, 0, none⟩ = false) (hne : b1 ≠ b2) (hb1 : b1 < w.heap.size) (hb2 : b2 < w.heap.size) :
    Calls Try.prog 32 #[v, .func (.func 33) #[] #[.pointer (some ⟨b1, 0, none⟩), .pointer (some ⟨b2, 0, none⟩)]] w (Set2 w b1 b2 t) := by
  have h83 := ta_74_83
  have h94 := ta_74_94
  have h98 := ta_74_98
  have h101 := ta_74_101
  have hna := na_74
  have hmd := md_74
  have HC := Lib.hid hC
  have H1 := Lib.hid h1
  have H2 := Lib.hid h2
  have F1 := Lib.hid f1
  have F2 := Lib.hid f2
  clear hC h1 h2 f1 f2
  go_enter Try.func32, Try.ntmps32
  go_wp2
  go_loopg [0] n (fun m v' wr => Hid (Chain wr m t v') ∧ Below w.heap.size w wr)
  case atStart => exact ⟨HC, Below.refl _ _⟩
  case round =>
    obtain ⟨hc, hb⟩ := hrel
    cases gk with
    | zero =>
      obtain ⟨g, e, rfl, hg⟩ := hc.out
      clear hc h83 h94 h98 h101
      have hgc : wr.cell? ⟨g, 1, none⟩ = some (.int .i64 t) := by simp [World.cell?, hg]
      have hk1 := (hb.cell (p := ⟨b1, 0, none⟩) hb1).trans H1.out
      have hk2 := (hb.cell (p := ⟨b2, 0, none⟩) hb2).trans H2.out
      have hf1 := (hb.frozen (p := ⟨b1, 0, none⟩) hb1).trans F1.out
      have hf2 := (hb.frozen (p := ⟨b2, 0, none⟩) hb2).trans F2.out
      go_wp2_with (go_at_call 33; refine (clos_83 g b1 b2 t _ _ _ hgc hk1 hf1 hk2 hf2 hne).mono ?_; rintro e w' ⟨rfl, rfl⟩)
      refine bodyPost_ret (results_none rfl _ _ _) rfl ?_
      exact ⟨rfl, wr, hb, rfl⟩
    | succ m =>
      obtain ⟨v', rfl, hc'⟩ := hc.out
      clear hc
      have HC' := Lib.hid hc'
      clear hc'
      go_wp2_with (first | (go_at_call 33; refine (clos_74 _ _ _ _).mono ?_; rintro e w' ⟨rfl, rfl⟩) | (go_at_call 63; refine (unwr_any _ _).mono ?_; rintro e w' ⟨rfl, hb'⟩))
      go_roundg m
      case measure => omega
      case rel => exact ⟨Lib.hid (HC'.out.below hb'), hb.trans (hb'.mono hb.size)⟩

set_option maxHeartbeats 400000 in
theorem isra_nil (w : World) :
    Calls Try.prog 28 #[.nilIface] w fun e w' => e = .returned (.tuple #[.int .i64 0, .bool false]) ∧ Below w.heap.size w w' := by
  go_enter Try.func28, Try.ntmps28
  go_wp2_with (go_at_call 32; refine (walk_nil _ _).mono ?_; rintro e w' ⟨rfl, rfl⟩)
  refine bodyPost_ret (v := .tuple #[.int .i64 0, .bool false]) (by simp [results, Try.results28, go_sem]) rfl ⟨rfl, ?_⟩
  exact ((Below.refl _ _).alloc (Nat.le_refl _) _).alloc (by simp) _
set_option maxHeartbeats 400000 in
theorem isra_75 (x : Value) (w : World) :
    Calls Try.prog 28 #[.iface 75 x] w fun e w' => e = .returned (.tuple #[.int .i64 0, .bool false]) ∧ Below w.heap.size w w' := by
  go_enter Try.func28, Try.ntmps28
  go_wp2_with (go_at_call 32; refine (walk_75 _ _ _ _).mono ?_; rintro e w' ⟨rfl, rfl⟩)
  refine bodyPost_ret (v := .tuple #[.int .i64 0, .bool false]) (by simp [results, Try.results28, go_sem]) rfl ⟨rfl, ?_⟩
  exact ((Below.refl _ _).alloc (Nat.le_refl _) _).alloc (by simp) _
set_option maxHeartbeats 400000 in
theorem isra_chain (n : Nat) (t : Int) (v : Value) (w : World) (hC : Chain w n t v) :
    Calls Try.prog 28 #[v] w fun e w' => e = .returned (.tuple #[.int .i64 t, .bool true]) ∧ Below w.heap.size w w' := by
  have HC := Lib.hid (hC.below (((Below.refl w.heap.size w).alloc (Nat.le_refl _) (.cells #[.int .i64 0] 39)).alloc (by simp) (.cells #[.bool false] 4)))
  clear hC
  go_enter Try.func28, Try.ntmps28
  go_wp2_with fail
  refine (walk_chain n t v _ _ (.int .i64 0) (.bool false) _ HC.out (by simp [go_sem]) (by simp [go_sem]) (by simp [go_sem]) (by simp [go_sem]) (by omega) (by simp; omega) (by simp)).mono ?_
  rintro e w' ⟨rfl, wr, hb, rfl⟩
  have hk1 : wr.cell? ⟨w.heap.size, 0, none⟩ = some (.int .i64 0) := (hb.cell (by simp; omega)).trans (by simp [go_sem])
  have hk2 : wr.cell? ⟨w.heap.size + 1, 0, none⟩ = some (.bool false) := (hb.cell (by simp)).trans (by simp [go_sem])
  go_wp2
  refine bodyPost_ret (v := .tuple #[.int .i64 t, .bool true]) (by simp [results, Try.results28, go_sem, hk1, hk2]) rfl ⟨rfl, ?_⟩
  exact (((((Below.refl w.heap.size w).alloc (Nat.le_refl _) (.cells #[.int .i64 0] 39)).alloc (by simp) (.cells #[.bool false] 4)).trans (hb.mono (by simp; omega))).setCell (by simp) _).setCell (by simp) _
end Go.Proofs.Ytgdjplpbpknfmaa.Given
