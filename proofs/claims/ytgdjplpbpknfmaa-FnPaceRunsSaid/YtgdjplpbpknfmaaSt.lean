/- The contract of paceState: the state handed to a calculator, and what its last error is. -/
import Derived.Test.YtgdjplpbpknfmaaErr
import Derived.LoopTactic
namespace Go.Proofs.Ytgdjplpbpknfmaa.Given
open Go.RowKit
set_option linter.unusedVariables false
set_option linter.unusedSimpArgs false

set_option maxHeartbeats 400000 in
theorem errnew (s : ByteArray) (w : World) :
    Calls Try.prog 24 #[.string s] w fun e w' => e = .returned (.iface 75 (.pointer (some ⟨w.heap.size, 0, none⟩))) ∧ w' = w.alloc (.cells #[.string s] 77) := by
  go_enter Try.func24, Try.ntmps24
  go_wp2
  go_ret
  exact ⟨rfl, rfl⟩
theorem heap_last (w : World) (o : Obj) : (w.alloc o).heap[w.heap.size]? = some o := by
  show (w.heap.push o)[w.heap.size]? = _
  simp
set_option maxHeartbeats 400000 in
theorem raf (after : Int) (w : World) :
    Calls Try.prog 36 #[.nilIface, .int .i64 after] w fun e w' => ∃ v, e = .returned v ∧ Chain w' 0 after v ∧ Below w.heap.size w w' := by
  go_enter Try.func36, Try.ntmps36
  go_wp2_with (go_at_call 24; refine (errnew _ _).mono ?_; rintro e w' ⟨rfl, rfl⟩)
  go_ret
  exact ⟨_, rfl, ⟨_, _, rfl, by have := heap_last (w.alloc (.cells #[.string ⟨#[116, 111, 111, 32, 109, 97, 110, 121, 32, 114, 101, 113, 117, 101, 115, 116, 115]⟩] 77)); simpa using this _⟩, ((Below.refl _ _).alloc (Nat.le_refl _) _).alloc (by simp) _⟩
set_option maxHeartbeats 400000 in
theorem zzra (after : Int) (w : World) :
    Calls Try.prog 31 #[.int .i64 after] w fun e w' => ∃ v, e = .returned v ∧ Chain w' 0 after v ∧ Below w.heap.size w w' := by
  go_enter Try.func31, Try.ntmps31
  go_wp2_with (go_at_call 36; refine (raf _ _).mono ?_; rintro e w' ⟨v, rfl, hc, hb⟩; have HC := Lib.hid hc; clear hc)
  go_ret
  exact ⟨_, rfl, HC.out, hb⟩
set_option maxHeartbeats 400000 in
theorem afterE (after wraps : Int) (w : World) (h0 : 0 ≤ wraps) (h1 : wraps ≤ 1000) :
    Calls Try.prog 23 #[.int .i64 after, .int .i64 wraps] w fun e w' => ∃ v, e = .returned v ∧ Chain w' wraps.toNat after v ∧ Below w.heap.size w w' := by
  go_enter Try.func23, Try.ntmps23
  go_wp2_with (go_at_call 31; refine (zzra _ _).mono ?_; rintro e w' ⟨v, rfl, hc, hb⟩; have HC := Lib.hid hc; clear hc)
  go_loop [5, 9] (fun v i => ∃ (k : Nat) (T : TypeId) (x : Value), (k : Int) ≤ wraps ∧ i = .int .i64 k ∧ v = .iface T x ∧ Hid (Chain w' k after v)) (fun _ i => wraps.toNat - (intOf i).toNat)
  case atStart =>
    obtain ⟨g, e, rfl, hg⟩ := HC.out
    exact ⟨0, _, _, by omega, rfl, rfl, HC⟩
  case round =>
    obtain ⟨k, T, x, hk, rfl, rfl, hc⟩ := hrel
    by_cases hlt : (k : Int) < wraps
    · go_wp2
      go_round
      case rel => exact ⟨k + 1, _, _, by omega, by go_num, rfl, Lib.hid ⟨_, rfl, hc.out⟩⟩
      case measure => simp [intOf]; omega
    · go_wp2
      go_ret
      have hkw : wraps.toNat = k := by omega
      exact ⟨_, rfl, by rw [hkw]; exact hc.out, hb⟩

/-- What a state's last error is. -/
def ErrOf (w : World) (r a x : Int) (v : Value) : Prop :=
  if 0 ≤ a ∧ (0 < r ∨ 0 < a ∨ 0 < x) then Chain w x.toNat a v else if 0 < r then ∃ p, v = .iface 75 p else v = .nilIface
theorem ErrOf.below {w w' : World} (h : Below w.heap.size w w') {r a x : Int} {v : Value} (he : ErrOf w r a x v) : ErrOf w' r a x v := by
  unfold ErrOf at *
  split
  · rename_i hc; rw [if_pos hc] at he; exact he.below h
  · rename_i hc; rw [if_neg hc] at he; exact he

def PState (w : World) (s r a x : Int) (e : Ending) (w' : World) : Prop :=
  ∃ v, e = .returned (.agg #[.int .i64 s, .int .i64 r, v]) ∧ ErrOf w' r a x v ∧ Below w.heap.size w w'

set_option maxHeartbeats 400000 in
theorem zzst_nil (s r : Int) (w : World) :
    Calls Try.prog 25 #[.int .i64 s, .int .i64 r, .nilIface] w fun e w' => e = .returned (.agg #[.int .i64 s, .int .i64 r, .nilIface]) ∧ Below w.heap.size w w' := by
  go_enter Try.func25, Try.ntmps25
  go_wp2
  refine bodyPost_ret (v := .agg #[.int .i64 s, .int .i64 r, .nilIface]) (by simp [results, Try.results25, go_sem]) rfl ⟨rfl, ?_⟩
  exact (Below.refl _ _).alloc (Nat.le_refl _) _
set_option maxHeartbeats 400000 in
theorem zzst_if (s r : Int) (t : TypeId) (x : Value) (w : World) :
    Calls Try.prog 25 #[.int .i64 s, .int .i64 r, .iface t x] w fun e w' => e = .returned (.agg #[.int .i64 s, .int .i64 r, .iface t x]) ∧ Below w.heap.size w w' := by
  go_enter Try.func25, Try.ntmps25
  go_wp2
  refine bodyPost_ret (v := .agg #[.int .i64 s, .int .i64 r, .iface t x]) (by simp [results, Try.results25, go_sem]) rfl ⟨rfl, ?_⟩
  exact (Below.refl _ _).alloc (Nat.le_refl _) _
theorem bcell {W w1 : World} (hb : Below W.heap.size W w1) : (∀ b o, b < W.heap.size → w1.cell? ⟨b, o, none⟩ = W.cell? ⟨b, o, none⟩) ∧ (∀ b o, b < W.heap.size → w1.frozen? ⟨b, o, none⟩ = W.frozen? ⟨b, o, none⟩) :=
  ⟨fun b o h => hb.cell (p := ⟨b, o, none⟩) h, fun b o h => hb.frozen (p := ⟨b, o, none⟩) h⟩
theorem Chain.iface {w : World} {t : Int} : ∀ {n : Nat} {v : Value}, Chain w n t v → ∃ T x, v = .iface T x
  | 0, _, ⟨_, _, hv, _⟩ => ⟨_, _, hv⟩
  | _ + 1, _, ⟨_, hv, _⟩ => ⟨_, _, hv⟩

/-- The blocks that hold a retryAfterError stay. -/
def KeepR (w w' : World) : Prop := ∀ (k : Nat) c f, w.heap[k]? = some (.cells c 86 f) → w'.heap[k]? = some (.cells c 86 f)
theorem KeepR.chain {w w' : World} (h : KeepR w w') {t : Int} : ∀ {n : Nat} {v : Value}, Chain w n t v → Chain w' n t v
  | 0, v, ⟨g, e, hv, hg⟩ => ⟨g, e, hv, h _ _ _ hg⟩
  | n + 1, v, ⟨v', hv, hc⟩ => ⟨v', hv, KeepR.chain h hc⟩
theorem KeepR.trans {a b c : World} (h : KeepR a b) (k : KeepR b c) : KeepR a c := fun i x f e => k i x f (h i x f e)
theorem KeepR.refl (a : World) : KeepR a a := fun _ _ _ h => h
theorem KeepR.below {w w' : World} (h : Below w.heap.size w w') : KeepR w w' := fun k c f e => by rw [h.block k (Array.getElem?_eq_some_iff.1 e).1]; exact e
def Is (w : World) (b : Nat) (T : TypeId) : Prop := ∃ c f, w.heap[b]? = some (.cells c T f)
theorem KeepR.set {a w : World} (h : KeepR a w) {b : Nat} {T : TypeId} (hT : T ≠ 86) (hb : Is w b T) (o : Nat) (u : Value) : KeepR a (w.setCell ⟨b, o, none⟩ u) := by
  intro k c f e
  have := h k c f e
  by_cases hk : k = b
  · obtain ⟨c', f', hb⟩ := hb
    subst hk
    rw [this] at hb
    simp only [Option.some.injEq, Obj.cells.injEq] at hb
    exact absurd hb.2.1 (Ne.symm hT)
  · rw [Below.heap_setCell _ _ _ _ hk]; exact this
theorem Is.set {w : World} {b : Nat} {T : TypeId} (hb : Is w b T) (o : Nat) (u : Value) : Is (w.setCell ⟨b, o, none⟩ u) b T := by
  obtain ⟨c, f, hb⟩ := hb
  refine ⟨c.setIfInBounds o u, f, ?_⟩
  simp [World.setCell, Array.getElem?_modify, hb]
theorem Is.below {w w' : World} {b : Nat} {T : TypeId} (hb : Is w b T) (h : Below w.heap.size w w') : Is w' b T := by
  obtain ⟨c, f, hb⟩ := hb
  exact ⟨c, f, by rw [h.block b (Array.getElem?_eq_some_iff.1 hb).1]; exact hb⟩

set_option maxHeartbeats 1000000 in
theorem pst_chain (s r a x : Int) (w : World) (hx0 : 0 ≤ x) (hx1 : x ≤ 1000) (ha : 0 ≤ a) (ht : 0 < r ∨ 0 < a ∨ 0 < x) :
    Calls Try.prog 17 #[.agg #[.int .i64 s, .int .i64 r, .int .i64 a, .int .i64 x]] w (PState w s r a x) := by
  have hd : (decide (0 < r) || decide (0 < a) || decide (0 < x)) = true := by simpa [or_assoc] using ht
  go_enter Try.func17, Try.ntmps17
  go_wp2_with fail
  all_goals
    refine (afterE a x _ hx0 hx1).mono ?_
    rintro e w1 ⟨v, rfl, hc, hb⟩
    obtain ⟨T, y, rfl⟩ := hc.iface
    have HC := Lib.hid hc
    clear hc
    obtain ⟨hcell, hfr⟩ := bcell hb
    have hz : w.heap.size + 1 < w1.heap.size := by have := hb.size; simp at this; omega
    go_wp2_with fail
    refine (zzst_if s r T y _).mono ?_
    rintro e w2 ⟨rfl, hb2⟩
    obtain ⟨hcell2, hfr2⟩ := bcell hb2
    have hz2 : w.heap.size + 1 < w2.heap.size := by have := hb2.size; omega
    go_wp2
    refine bodyPost_ret (v := .agg #[.int .i64 s, .int .i64 r, .iface T y]) (by simp [results, Try.results17, go_sem, hcell, hfr, hcell2, hfr2, hz, hz2]) rfl ⟨_, rfl, ?_, ?_⟩
    · have hi : Is ((w.alloc (.cells #[.int .i64 s, .int .i64 r, .int .i64 a, .int .i64 x] 23)).alloc (.cells #[.int .i64 0, .int .i64 0, .nilIface] 46)) (w.heap.size + 1) 46 := ⟨_, _, by have := heap_last (w.alloc (.cells #[.int .i64 s, .int .i64 r, .int .i64 a, .int .i64 x] 23)) (.cells #[.int .i64 0, .int .i64 0, .nilIface] 46); simpa using this⟩
      have hi2 := (hi.below hb).below hb2
      unfold ErrOf
      rw [if_pos ⟨ha, ht⟩]
      exact ((((KeepR.below hb2).set (by decide) hi2 _ _).set (by decide) (hi2.set _ _) _ _).set (by decide) ((hi2.set _ _).set _ _) _ _).chain HC.out
    · exact (((((((Below.refl w.heap.size w).alloc (Nat.le_refl _) _).alloc (by simp) _).trans (hb.mono (by simp; omega))).trans (hb2.mono (by omega))).setCell (by simp) _).setCell (by simp) _).setCell (by simp) _

set_option maxHeartbeats 1000000 in
theorem pst_plain (s r a x : Int) (w : World) (hn : ¬ (0 ≤ a ∧ (0 < r ∨ 0 < a ∨ 0 < x))) (hr : 0 < r) :
    Calls Try.prog 17 #[.agg #[.int .i64 s, .int .i64 r, .int .i64 a, .int .i64 x]] w (PState w s r a x) := by
  have ha : ¬ 0 ≤ a := by omega
  go_enter Try.func17, Try.ntmps17
  go_wp2_with fail
  refine (errnew _ _).mono ?_
  rintro e w1 ⟨rfl, rfl⟩
  go_wp2_with fail
  refine (zzst_if s r 75 _ _).mono ?_
  rintro e w2 ⟨rfl, hb2⟩
  obtain ⟨hcell2, hfr2⟩ := bcell hb2
  have hz2 : w.heap.size + 2 < w2.heap.size := by have := hb2.size; simp at this; omega
  go_wp2
  refine bodyPost_ret (v := .agg #[.int .i64 s, .int .i64 r, .iface 75 (.pointer (some ⟨w.heap.size + 2, 0, none⟩))]) (by simp [results, Try.results17, go_sem, hcell2, hfr2, hz2]) rfl ⟨_, rfl, ?_, ?_⟩
  · unfold ErrOf
    rw [if_neg hn, if_pos hr]
    exact ⟨_, rfl⟩
  · exact ((((((Below.refl w.heap.size w).alloc (Nat.le_refl _) _).alloc (by simp) _).alloc (by simp; omega) _).trans (hb2.mono (by simp; omega))).setCell (by simp) _).setCell (by simp) _ |>.setCell (by simp) _
set_option maxHeartbeats 1000000 in
theorem pst_nil (s r a x : Int) (w : World) (hn : ¬ (0 ≤ a ∧ (0 < r ∨ 0 < a ∨ 0 < x))) (hr : ¬ 0 < r) :
    Calls Try.prog 17 #[.agg #[.int .i64 s, .int .i64 r, .int .i64 a, .int .i64 x]] w (PState w s r a x) := by
  have hd : ¬ 0 ≤ a ∨ (¬ 0 < a ∧ ¬ 0 < x) := by omega
  rcases hd with hd | ⟨h1, h2⟩
  all_goals
    go_enter Try.func17, Try.ntmps17
    go_wp2_with fail
    all_goals
      refine (zzst_nil s r _).mono ?_
      rintro e w2 ⟨rfl, hb2⟩
      obtain ⟨hcell2, hfr2⟩ := bcell hb2
      have hz2 : w.heap.size + 1 < w2.heap.size := by have := hb2.size; simp at this; omega
      go_wp2
      refine bodyPost_ret (v := .agg #[.int .i64 s, .int .i64 r, .nilIface]) (by simp [results, Try.results17, go_sem, hcell2, hfr2, hz2]) rfl ⟨_, rfl, ?_, ?_⟩
      · unfold ErrOf
        rw [if_neg hn, if_neg (by omega)]
      · exact (((((Below.refl w.heap.size w).alloc (Nat.le_refl _) _).alloc (by simp) _).trans (hb2.mono (by simp; omega))).setCell (by simp) _).setCell (by simp) _ |>.setCell (by simp) _
theorem pst (s r a x : Int) (w : World) (hx0 : 0 ≤ x) (hx1 : x ≤ 1000) :
    Calls Try.prog 17 #[.agg #[.int .i64 s, .int .i64 r, .int .i64 a, .int .i64 x]] w (PState w s r a x) := by
  by_cases hn : 0 ≤ a ∧ (0 < r ∨ 0 < a ∨ 0 < x)
  · exact pst_chain s r a x w hx0 hx1 hn.1 hn.2
  · by_cases hr : 0 < r
    · exact pst_plain s r a x w hn hr
    · exact pst_nil s r a x w hn hr
end Go.Proofs.Ytgdjplpbpknfmaa.Given
