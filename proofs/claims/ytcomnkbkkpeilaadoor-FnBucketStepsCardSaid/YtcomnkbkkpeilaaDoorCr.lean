/- The contracts of Cache.Create and Cache.Remove with the closures of impl.BucketSteps; keys of at most 1,000,000 bytes, at most 1,000,000 stores. -/
import Derived.Test.YtcomnkbkkpeilaaDoorOps
namespace Go.Proofs.YtcomnkbkkpeilaaDoor.Given
open Go.RowKit Go.WideMaps Go.Maps
set_option linter.unusedVariables false
set_option linter.unusedSimpArgs false

/-- What Create does: the map, whether it was called, whether it was asked, the error (0 none, 1 own, 2 exists). -/
def crF (f : ByteArray → Option Bool) (b : ByteArray) (good asks found fails : Bool) : (ByteArray → Option Bool) × Bool × Bool × Int :=
  if b = ⟨#[]⟩ then (f, false, false, 0) else
  match f b with
  | some true => (f, false, false, 0)
  | none => if good then (upd f b true, true, false, 0) else (f, true, false, 1)
  | some false => if asks then (if fails then (f, false, true, 2) else if found then (upd f b true, false, true, 0) else if good then (upd (upd f b false) b true, true, true, 0) else (upd f b false, true, true, 1))
    else if good then (upd f b true, true, false, 0) else (f, true, false, 1)
def errV (g1 g2 : Nat) (x : Int) : Value := if x = 0 then .nilIface else if x = 1 then ev g1 else ev g2

theorem nf_nil (w : World) : (binOp .neq 45 .nilFunc .nilFunc).run Tryd.prog w = .ok (.bool false) w := by kernel_rfl
theorem nf_fun (x : Array Value) (w : World) : (binOp .neq 45 (.func (.func 15) #[] x) .nilFunc).run Tryd.prog w = .ok (.bool true) w := by kernel_rfl

section
variable {w : World} {gC m n A S b4 b5 g1 g2 : Nat} {f : ByteArray → Option Bool} {dv : Int} {b : ByteArray} {good asks found fails dl ca as_ : Bool} {er : Int}

def askV (A S b5 : Nat) (asks : Bool) : Value := if asks then .func (.func 15) #[] #[.pointer (some ⟨A, 0, none⟩), .pointer (some ⟨S, 0, none⟩), .pointer (some ⟨b5, 0, none⟩)] else .nilFunc
def actV (A S b4 : Nat) : Value := .func (.func 14) #[] #[.pointer (some ⟨A, 0, none⟩), .pointer (some ⟨S, 0, none⟩), .pointer (some ⟨b4, 0, none⟩)]

set_option maxHeartbeats 1000000 in
theorem cr_nil (h : Env w gC m n A S b4 b5 g1 g2 f dv b good asks found fails false false false 0) (hb : b = ⟨#[]⟩) :
    Calls Tryd.prog 19 #[.pointer (some ⟨gC, 0, none⟩), .string b, actV A S b4, askV A S b5 asks] w fun e w' => e = .returned .nilIface ∧ w' = w := by
  subst hb
  have e1 : (⟨#[]⟩ : ByteArray).toList.isEmpty = true := by rw [ByteArray.toList_eq]; rfl
  go_enter Tryd.func19, Tryd.ntmps19
  go_wp2
  go_ret
  exact ⟨rfl, rfl⟩

set_option maxHeartbeats 1000000 in
theorem cr_true (h : Env w gC m n A S b4 b5 g1 g2 f dv b good asks found fails false false false 0) (hb : b ≠ ⟨#[]⟩) (hz : b.size ≤ 1000000) (hf : f b = some true) :
    Calls Tryd.prog 19 #[.pointer (some ⟨gC, 0, none⟩), .string b, actV A S b4, askV A S b5 asks] w fun e w' => e = .returned .nilIface ∧ w' = w := by
  have e1 := e_em hb
  have h1 := cellH h.hC 0 _ rfl
  have h2 := h.hM.look b hz
  rw [hf] at h2
  simp only [Option.isSome_some, Option.getD_some] at h2
  go_enter Tryd.func19, Tryd.ntmps19
  go_wp2
  go_ret
  exact ⟨rfl, rfl⟩

set_option maxHeartbeats 1000000 in
/-- The end of Create, where nothing was asked. -/
theorem cr_act (h : Env w gC m n A S b4 b5 g1 g2 f dv b good asks found fails false false false 0) (hb : b ≠ ⟨#[]⟩) (hz : b.size ≤ 1000000) (hn : n ≤ 999990) (hf : f b = none ∨ f b = some false ∧ asks = false) :
    Calls Tryd.prog 19 #[.pointer (some ⟨gC, 0, none⟩), .string b, actV A S b4, askV A S b5 asks] w fun e w' => e = .returned (if good then .nilIface else ev g1) ∧
      Env w' gC m (n + 2) A S b4 b5 g1 g2 (if good then upd f b true else f) dv b good asks found fails false true false 0 ∧ Keep A m w w' := by
  have e1 := e_em hb
  have h1 := cellH h.hC 0 _ rfl
  have h2 := h.hM.look b hz
  have cA := clos14 h
  have q1 := nf_nil
  have hs := h.set 1 (.bool true) (by omega) false true false 0 rfl
  have hk := Keep.setCell A m 1 w (.bool true)
  unfold actV
  rcases hf with hf | ⟨hf, rfl⟩
  all_goals
    rw [hf] at h2
    simp only [Option.isSome_some, Option.isSome_none, Option.getD_some, Option.getD_none] at h2
  · cases good with
    | true =>
      simp only [if_true] at cA ⊢
      go_enter Tryd.func19, Tryd.ntmps19
      go_wp2_with (go_at_call 14; go_must (refine cA.mono ?_; rintro e w1 ⟨rfl, rfl⟩); have k1 := cellH hs.hC 0 _ rfl; obtain ⟨w2, k2, k3, k4⟩ := hs.hM.upd (by omega) b hz true)
      go_ret
      exact ⟨rfl, (hs.put k3 k4).mono (by omega), hk.trans (Keep.grown k4)⟩
    | false =>
      simp only [Bool.false_eq_true, if_false] at cA ⊢
      unfold ev at cA
      go_enter Tryd.func19, Tryd.ntmps19
      go_wp2_with (go_at_call 14; go_must (refine cA.mono ?_; rintro e w1 ⟨rfl, rfl⟩))
      go_ret
      exact ⟨rfl, hs.mono (by omega), hk⟩
  · cases good with
    | true =>
      simp only [if_true] at cA ⊢
      rw [show askV A S b5 false = .nilFunc from rfl]
      go_enter Tryd.func19, Tryd.ntmps19
      go_wp2_with (go_at_call 14; go_must (refine cA.mono ?_; rintro e w1 ⟨rfl, rfl⟩); have k1 := cellH hs.hC 0 _ rfl; obtain ⟨w2, k2, k3, k4⟩ := hs.hM.upd (by omega) b hz true)
      go_ret
      exact ⟨rfl, (hs.put k3 k4).mono (by omega), hk.trans (Keep.grown k4)⟩
    | false =>
      simp only [Bool.false_eq_true, if_false] at cA ⊢
      unfold ev at cA
      rw [show askV A S b5 false = .nilFunc from rfl]
      go_enter Tryd.func19, Tryd.ntmps19
      go_wp2_with (go_at_call 14; go_must (refine cA.mono ?_; rintro e w1 ⟨rfl, rfl⟩))
      go_ret
      exact ⟨rfl, hs.mono (by omega), hk⟩

set_option maxHeartbeats 1000000 in
/-- Create of a bucket that was deleted, with asking. -/
theorem cr_ask (h : Env w gC m n A S b4 b5 g1 g2 f dv b good true found fails false false false 0) (hb : b ≠ ⟨#[]⟩) (hz : b.size ≤ 1000000) (hn : n ≤ 999990) (hf : f b = some false) :
    Calls Tryd.prog 19 #[.pointer (some ⟨gC, 0, none⟩), .string b, actV A S b4, askV A S b5 true] w fun e w' =>
      e = .returned (if fails then ev g2 else if found then .nilIface else if good then .nilIface else ev g1) ∧
      Env w' gC m (n + 2) A S b4 b5 g1 g2 (if fails then f else if found then upd f b true else if good then upd (upd f b false) b true else upd f b false) dv b good true found fails false (if fails then false else !found) true 0 ∧ Keep A m w w' := by
  have e1 := e_em hb
  have h1 := cellH h.hC 0 _ rfl
  have h2 := h.hM.look b hz
  have cQ := clos15 h
  have hs := h.set 2 (.bool true) (by omega) false false true 0 rfl
  have hk := Keep.setCell A m 2 w (.bool true)
  have q1 := nf_fun
  rw [hf] at h2
  simp only [Option.isSome_some, Option.getD_some] at h2
  unfold actV
  rw [show askV A S b5 true = .func (.func 15) #[] #[.pointer (some ⟨A, 0, none⟩), .pointer (some ⟨S, 0, none⟩), .pointer (some ⟨b5, 0, none⟩)] from rfl]
  cases fails with
  | true =>
    simp only [if_true] at cQ ⊢
    unfold ev at cQ
    go_enter Tryd.func19, Tryd.ntmps19
    go_wp2_with (go_at_call 15; go_must (refine cQ.mono ?_; rintro e w1 ⟨rfl, q, rfl⟩))
    go_ret
    exact ⟨rfl, (hs.drewN q).mono (by omega), hk.trans (Keep.drewN _ _ _ _)⟩
  | false =>
    simp only [Bool.false_eq_true, if_false] at cQ ⊢
    cases found with
    | true =>
      simp only [if_true]
      go_enter Tryd.func19, Tryd.ntmps19
      go_wp2_with (go_at_call 15; go_must (refine cQ.mono ?_; rintro e w1 ⟨rfl, q, rfl⟩); have hs1 := hs.drewN q; have k1 := cellH hs1.hC 0 _ rfl; obtain ⟨w2, k2, k3, k4⟩ := hs1.hM.upd (by omega) b hz true)
      go_ret
      exact ⟨rfl, (hs1.put k3 k4).mono (by omega), (hk.trans (Keep.drewN _ _ _ _)).trans (Keep.grown k4)⟩
    | false =>
      simp only [Bool.false_eq_true, if_false]
      cases good with
      | true =>
        simp only [if_true]
        go_enter Tryd.func19, Tryd.ntmps19
        go_wp2_with (first
          | (go_at_call 15; go_must (refine cQ.mono ?_; rintro e w1 ⟨rfl, q, rfl⟩); have hs1 := hs.drewN q; have k1 := cellH hs1.hC 0 _ rfl; obtain ⟨w2, k2, k3, k4⟩ := hs1.hM.upd (by omega) b hz false; have hs2 := hs1.put k3 k4; have j1 := cellH hs2.hC 0 _ rfl; have j2 := hs2.hM.look b hz; simp only [upd, if_true, Option.isSome_some, Option.getD_some] at j2)
          | (go_at_call 14; go_must (refine (clos14 hs2).mono ?_; rintro e w3 ⟨rfl, rfl⟩); have hs3 := hs2.set 1 (.bool true) (by omega) false true true 0 rfl; have i1 := cellH hs3.hC 0 _ rfl; obtain ⟨w4, i2, i3, i4⟩ := hs3.hM.upd (by omega) b hz true))
        go_ret
        exact ⟨rfl, hs3.put i3 i4, (((hk.trans (Keep.drewN _ _ _ _)).trans (Keep.grown k4)).trans (Keep.setCell _ _ _ _ _)).trans (Keep.grown i4)⟩
      | false =>
        simp only [Bool.false_eq_true, if_false]
        go_enter Tryd.func19, Tryd.ntmps19
        go_wp2_with (first
          | (go_at_call 15; go_must (refine cQ.mono ?_; rintro e w1 ⟨rfl, q, rfl⟩); have hs1 := hs.drewN q; have k1 := cellH hs1.hC 0 _ rfl; obtain ⟨w2, k2, k3, k4⟩ := hs1.hM.upd (by omega) b hz false; have hs2 := hs1.put k3 k4; have j1 := cellH hs2.hC 0 _ rfl; have j2 := hs2.hM.look b hz; simp only [upd, if_true, Option.isSome_some, Option.getD_some] at j2)
          | (go_at_call 14; have cA2 := clos14 hs2; simp only [Bool.false_eq_true, if_false] at cA2; unfold ev at cA2; go_must (refine cA2.mono ?_; rintro e w3 ⟨rfl, rfl⟩); have hs3 := hs2.set 1 (.bool true) (by omega) false true true 0 rfl))
        go_ret
        exact ⟨rfl, hs3.mono (by omega), ((hk.trans (Keep.drewN _ _ _ _)).trans (Keep.grown k4)).trans (Keep.setCell _ _ _ _ _)⟩

set_option maxHeartbeats 1000000 in
theorem rm_nil (hb : b = ⟨#[]⟩) : Calls Tryd.prog 20 #[.pointer (some ⟨gC, 0, none⟩), .string b, actV A S b4] w fun e w' => e = .returned .nilIface ∧ w' = w := by
  subst hb
  have e1 : (⟨#[]⟩ : ByteArray).toList.isEmpty = true := by rw [ByteArray.toList_eq]; rfl
  go_enter Tryd.func20, Tryd.ntmps20
  go_wp2
  go_ret
  exact ⟨rfl, rfl⟩
set_option maxHeartbeats 1000000 in
theorem rm_gone (h : Env w gC m n A S b4 b5 g1 g2 f dv b good asks found fails false false false 0) (hb : b ≠ ⟨#[]⟩) (hz : b.size ≤ 1000000) (hf : f b = some false) {v : Value} (hL : w.cell? ⟨0, 0, none⟩ = some v) :
    Calls Tryd.prog 20 #[.pointer (some ⟨gC, 0, none⟩), .string b, actV A S b4] w fun e w' => e = .returned v ∧ w' = w := by
  have e1 := e_em hb
  have h1 := cellH h.hC 0 _ rfl
  have h2 := h.hM.look b hz
  rw [hf] at h2
  simp only [Option.isSome_some, Option.getD_some] at h2
  go_enter Tryd.func20, Tryd.ntmps20
  go_wp2
  go_ret
  exact ⟨rfl, rfl⟩
set_option maxHeartbeats 1000000 in
theorem rm_act (h : Env w gC m n A S b4 b5 g1 g2 f dv b good asks found fails false false false 0) (hb : b ≠ ⟨#[]⟩) (hz : b.size ≤ 1000000) (hn : n ≤ 999990) (hf : f b ≠ some false) :
    Calls Tryd.prog 20 #[.pointer (some ⟨gC, 0, none⟩), .string b, actV A S b4] w fun e w' => e = .returned (if good then .nilIface else ev g1) ∧
      Env w' gC m (n + 2) A S b4 b5 g1 g2 (if good then upd f b false else f) dv b good asks found fails false true false 0 ∧ Keep A m w w' := by
  have e1 := e_em hb
  have h1 := cellH h.hC 0 _ rfl
  have h2 := h.hM.look b hz
  have cA := clos14 h
  have hs := h.set 1 (.bool true) (by omega) false true false 0 rfl
  have hk := Keep.setCell A m 1 w (.bool true)
  unfold actV
  have hff : f b = none ∨ f b = some true := by
    cases hx : f b with
    | none => exact .inl rfl
    | some v => cases v with
      | true => exact .inr rfl
      | false => exact absurd hx hf
  rcases hff with hf | hf
  all_goals
    rw [hf] at h2
    simp only [Option.isSome_some, Option.isSome_none, Option.getD_some, Option.getD_none] at h2
  all_goals
    cases good with
    | true =>
      simp only [if_true] at cA ⊢
      go_enter Tryd.func20, Tryd.ntmps20
      go_wp2_with (go_at_call 14; go_must (refine cA.mono ?_; rintro e w1 ⟨rfl, rfl⟩); have k1 := cellH hs.hC 0 _ rfl; obtain ⟨w2, k2, k3, k4⟩ := hs.hM.upd (by omega) b hz false)
      go_ret
      exact ⟨rfl, (hs.put k3 k4).mono (by omega), hk.trans (Keep.grown k4)⟩
    | false =>
      simp only [Bool.false_eq_true, if_false] at cA ⊢
      unfold ev at cA
      go_enter Tryd.func20, Tryd.ntmps20
      go_wp2_with (go_at_call 14; go_must (refine cA.mono ?_; rintro e w1 ⟨rfl, rfl⟩))
      go_ret
      exact ⟨rfl, hs.mono (by omega), hk⟩
end
end Go.Proofs.YtcomnkbkkpeilaaDoor.Given
