/- The contract of RepeatableReader.Seek. Offsets up to 2^40. -/
import Derived.Test.YtgbcmjbiddkldaaDoorRk
namespace Go.Proofs.YtgbcmjbiddkldaaDoor.Given
open Go.RowKit Go.Proofs.YtgbcmjbiddkldaaDoorW.PrintWords Go.Proofs.YtgbcmjbiddkldaaDoor.PR Go.Proofs.YtgbcmjbiddkldaaDoor.Pl
set_option linter.unusedVariables false
set_option linter.unusedSimpArgs false

def absR (L i : Nat) (off wh : Int) : Int := if wh = 0 then off else if wh = 1 then i + off else L + off
def rrSeek (L i : Nat) (off wh : Int) : Int × Int × Nat :=
  if absR L i off wh < 0 then (0, 3, i) else if absR L i off wh > L then (off - (absR L i off wh - L), 3, i) else (absR L i off wh, 0, (absR L i off wh).toNat)
/-- All blocks stay but B. -/
structure Only (B : Nat) (w w' : World) : Prop where
  os : w'.os = w.os
  tape : w'.tape = w.tape
  output : w'.output = w.output
  size : w.heap.size ≤ w'.heap.size
  block : ∀ k, k < w.heap.size → k ≠ B → w'.heap[k]? = w.heap[k]?

set_option maxHeartbeats 2000000 in
theorem rseek_abs (M B Q i : Nat) (fails : Bool) (ps : List (List Int)) (kept : List Int) (vb : Value) (w : World) (a : Addr) (h : RR w M B Q fails ps kept i vb) (off wh A : Int) (hA : A = absR kept.length i off wh) (hwh : 0 ≤ wh ∧ wh ≤ 2) (hof : -1099511627776 ≤ off ∧ off ≤ 1099511627776) (hk6 : kept.length ≤ 1000000) (hM : M ≤ w.heap.size) :
    Calls Tryd.prog 47 #[.pointer (some ⟨B, 0, none⟩), .int .i64 off, .int .i64 wh] w fun e w' => ∃ v, e = .returned (.tuple #[.int .i64 (rrSeek kept.length i off wh).1, v]) ∧ ErrV w' a M (rrSeek kept.length i off wh).2.1 v ∧
      RR w' M B Q fails ps kept (rrSeek kept.length i off wh).2.2 vb ∧ Only B w w' := by
  obtain ⟨r, hr⟩ : ∃ r, rrSeek kept.length i off wh = r := ⟨_, rfl⟩
  have hr' := hr
  unfold rrSeek at hr'
  rw [← hA] at hr'
  rw [hr]
  obtain ⟨Ab, cb, eb⟩ := own_slice h.hb
  subst eb
  have x1 := cellH h.hB 1 (.int .i64 (i : Int)) rfl
  have x2 := cellH h.hB 2 (.slice Ab kept.length cb) rfl
  have f1 := frozenH h.hB 1
  have hi := h.hi
  have hlo := h.lo
  have hbnd : -1099511627776 ≤ A ∧ A ≤ 1099512627776 := by
    rw [hA]; unfold absR
    split
    · omega
    · split <;> omega
  have hne : ∀ w' : World, Below w.heap.size w w' → RR w' M B Q fails ps kept i (.slice Ab kept.length cb) := fun w' hb =>
    ⟨(hb.block B (ltH h.hB)).trans h.hB, h.hP.moved (fun k hk => hb.block k (by
      rcases hk with hk | ⟨c, t, hc, _⟩
      · omega
      · exact ltH hc)), own_move h.hb (fun k e => hb.block k (own_lt h.hb k e)), hi, hlo⟩
  have hset : ∀ j : Nat, j ≤ kept.length → RR (w.setCell ⟨B, 1, none⟩ (.int .i64 (j : Int))) M B Q fails ps kept j (.slice Ab kept.length cb) ∧ Only B w (w.setCell ⟨B, 1, none⟩ (.int .i64 (j : Int))) := by
    intro j hj
    have hB1 := setH h.hB 1 (.int .i64 (j : Int)) (by simp)
    have key : ∀ k, k ≠ B → (w.setCell ⟨B, 1, none⟩ (.int .i64 (j : Int))).heap[k]? = w.heap[k]? := fun k hk => Below.heap_setCell _ _ _ k hk
    refine ⟨⟨hB1, h.hP.moved (fun k hk => key k ?_), own_move h.hb (fun k e => key k (fun e' => own_neB h.hb h.hB (by decide) (by rw [e, e']))), hj, hlo⟩, ⟨rfl, rfl, rfl, by simp, fun k _ hk => key k hk⟩⟩
    rintro rfl
    rcases hk with hk | ⟨c, t, hc, ht⟩
    · omega
    · rw [h.hB] at hc; cases hc; rcases ht with ht | ht <;> cases ht
  have hwr : ∀ x : Int, -4611686018427387904 ≤ x ∧ x ≤ 4611686018427387904 → wrap64 x = x := fun x hx => wrap64_id (by omega) (by omega)
  -- the three ways of a whence
  have sA : wh = 0 ∧ off = A ∨ wh = 1 ∧ (i : Int) + off = A ∨ wh = 2 ∧ (kept.length : Int) + off = A := by
    rw [hA]; unfold absR
    by_cases h0 : wh = 0
    · left; simp [h0]
    · by_cases h1 : wh = 1
      · right; left; simp [h1]
      · right; right; simp [h0, h1]; omega
  by_cases c1 : A < 0
  · rw [if_pos c1] at hr'
    subst hr'
    have c1b : decide (A < 0) = true := decide_eq_true c1
    clear hA hr
    have fin : ∀ (w' : World) (g : Nat), w.heap.size ≤ g → ErrAny w' g → Below w.heap.size w w' → ErrV w' a M 3 (evA ⟨g, 0, none⟩) ∧ RR w' M B Q fails ps kept i (.slice Ab kept.length cb) ∧ Only B w w' := fun w' g hg he hb =>
      ⟨.inr (.inr (.inr ⟨rfl, g, rfl, by omega, he⟩)), hne w' hb, ⟨hb.os, hb.tape, hb.output, hb.size, fun k hk _ => hb.block k hk⟩⟩
    rcases sA with ⟨rfl, rfl⟩ | ⟨rfl, hs⟩ | ⟨rfl, hs⟩
    · go_enter Tryd.func47, Tryd.ntmps47
      go_wp2_with (go_at_call 48; go_must (refine (errNew _ _).mono ?_; rintro e w2 ⟨g, rfl, hg, hE, hb⟩))
      go_ret2
      exact ⟨_, rfl, fin _ g hg hE hb⟩
    · have hw : wrap64 ((i : Int) + off) = A := by rw [hs]; exact hwr A (by omega)
      have hw0 : IntKind.i64.wrap ((i : Int) + off) = A := (IntWalk.i64_left _).trans hw
      clear hs
      go_enter Tryd.func47, Tryd.ntmps47
      go_wp2_with (go_at_call 48; go_must (refine (errNew _ _).mono ?_; rintro e w2 ⟨g, rfl, hg, hE, hb⟩))
      go_ret2
      exact ⟨_, rfl, fin _ g hg hE hb⟩
    · have hw : wrap64 ((kept.length : Int) + off) = A := by rw [hs]; exact hwr A (by omega)
      have hw0 : IntKind.i64.wrap ((kept.length : Int) + off) = A := (IntWalk.i64_left _).trans hw
      clear hs
      go_enter Tryd.func47, Tryd.ntmps47
      go_wp2_with (go_at_call 48; go_must (refine (errNew _ _).mono ?_; rintro e w2 ⟨g, rfl, hg, hE, hb⟩))
      go_ret2
      exact ⟨_, rfl, fin _ g hg hE hb⟩
  rw [if_neg c1] at hr'
  have c1b : decide (A < 0) = false := decide_eq_false c1
  by_cases c2 : A > (kept.length : Int)
  · rw [if_pos c2] at hr'
    subst hr'
    have c2b : decide ((kept.length : Int) < A) = true := decide_eq_true c2
    have hv1 : wrap64 (A - (kept.length : Int)) = A - (kept.length : Int) := hwr _ (by omega)
    have hv2 : wrap64 (off - (A - (kept.length : Int))) = off - (A - (kept.length : Int)) := hwr _ (by omega)
    have hv3 : IntKind.i64.wrap (A - (kept.length : Int)) = A - (kept.length : Int) := (IntWalk.i64_left _).trans hv1
    have hv4 : IntKind.i64.wrap (off - (A - (kept.length : Int))) = off - (A - (kept.length : Int)) := (IntWalk.i64_left _).trans hv2
    clear hA hr
    have fin : ∀ (w' : World) (g : Nat), w.heap.size ≤ g → ErrAny w' g → Below w.heap.size w w' → ErrV w' a M 3 (evA ⟨g, 0, none⟩) ∧ RR w' M B Q fails ps kept i (.slice Ab kept.length cb) ∧ Only B w w' := fun w' g hg he hb =>
      ⟨.inr (.inr (.inr ⟨rfl, g, rfl, by omega, he⟩)), hne w' hb, ⟨hb.os, hb.tape, hb.output, hb.size, fun k hk _ => hb.block k hk⟩⟩
    rcases sA with ⟨rfl, rfl⟩ | ⟨rfl, hs⟩ | ⟨rfl, hs⟩
    · go_enter Tryd.func47, Tryd.ntmps47
      go_wp2_with (go_at_call 48; go_must (refine (errNew _ _).mono ?_; rintro e w2 ⟨g, rfl, hg, hE, hb⟩))
      go_ret2
      exact ⟨_, rfl, fin _ g hg hE hb⟩
    · have hw : wrap64 ((i : Int) + off) = A := by rw [hs]; exact hwr A (by omega)
      have hw0 : IntKind.i64.wrap ((i : Int) + off) = A := (IntWalk.i64_left _).trans hw
      clear hs
      go_enter Tryd.func47, Tryd.ntmps47
      go_wp2_with (go_at_call 48; go_must (refine (errNew _ _).mono ?_; rintro e w2 ⟨g, rfl, hg, hE, hb⟩))
      go_ret2
      exact ⟨_, rfl, fin _ g hg hE hb⟩
    · have hw : wrap64 ((kept.length : Int) + off) = A := by rw [hs]; exact hwr A (by omega)
      have hw0 : IntKind.i64.wrap ((kept.length : Int) + off) = A := (IntWalk.i64_left _).trans hw
      clear hs
      go_enter Tryd.func47, Tryd.ntmps47
      go_wp2_with (go_at_call 48; go_must (refine (errNew _ _).mono ?_; rintro e w2 ⟨g, rfl, hg, hE, hb⟩))
      go_ret2
      exact ⟨_, rfl, fin _ g hg hE hb⟩
  rw [if_neg c2] at hr'
  subst hr'
  have c2b : decide ((kept.length : Int) < A) = false := decide_eq_false c2
  obtain ⟨j, hj⟩ : ∃ j : Nat, A = (j : Int) := ⟨A.toNat, by omega⟩
  obtain ⟨g1, g2⟩ := hset j (by omega)
  have G1 := Lib.hid g1
  have G2 := Lib.hid g2
  clear hset g1 g2 hA hr hne
  subst hj
  simp only [Int.toNat_natCast]
  rcases sA with ⟨rfl, rfl⟩ | ⟨rfl, hs⟩ | ⟨rfl, hs⟩
  · go_enter Tryd.func47, Tryd.ntmps47
    go_wp2
    go_ret2
    exact ⟨_, rfl, .inl ⟨rfl, rfl⟩, G1.out, G2.out⟩
  · have hw : wrap64 ((i : Int) + off) = (j : Int) := by rw [hs]; exact hwr _ (by omega)
    have hw0 : IntKind.i64.wrap ((i : Int) + off) = (j : Int) := (IntWalk.i64_left _).trans hw
    clear hs
    go_enter Tryd.func47, Tryd.ntmps47
    go_wp2
    go_ret2
    exact ⟨_, rfl, .inl ⟨rfl, rfl⟩, G1.out, G2.out⟩
  · have hw : wrap64 ((kept.length : Int) + off) = (j : Int) := by rw [hs]; exact hwr _ (by omega)
    have hw0 : IntKind.i64.wrap ((kept.length : Int) + off) = (j : Int) := (IntWalk.i64_left _).trans hw
    clear hs
    go_enter Tryd.func47, Tryd.ntmps47
    go_wp2
    go_ret2
    exact ⟨_, rfl, .inl ⟨rfl, rfl⟩, G1.out, G2.out⟩
end Go.Proofs.YtgbcmjbiddkldaaDoor.Given
