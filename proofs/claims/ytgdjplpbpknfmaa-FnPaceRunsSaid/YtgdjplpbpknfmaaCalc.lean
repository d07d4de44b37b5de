/- The contracts of the calculators' Calculate: the default one, that for S3, that for the instance metadata service. -/
import Derived.Test.YtgdjplpbpknfmaaSt
import Derived.Laws.ShiftsVarLaws
import Derived.Deep.QuietTactic
import Derived.BigQuiet
namespace Go.Proofs.Ytgdjplpbpknfmaa.Given
open Go.RowKit
set_option linter.unusedVariables false
set_option linter.unusedSimpArgs false
/-- The sleep behind a retry, and behind none, as the code reckons them. -/
def attack (s a : Int) : Int := wrap64 ((s * 2 ^ a.toNat).tdiv (2 ^ a.toNat - 1))
def decay (s d : Int) : Int := wrap64 (wrap64 (s * 2 ^ d.toNat) - s) / 2 ^ d.toNat
def after (mn t : Int) : Int := if t < mn then mn else t
def s3calc (mn mx d a s r : Int) : Int := if 0 < r then (if a = 0 then mx else if s = 0 then mn else if attack s a ≤ mx then attack s a else mx) else (if decay s d < mn then 0 else decay s d)
def dfcalc (mn mx d a s r : Int) : Int := if 0 < r then (if a = 0 then mx else if mx < attack s a then mx else attack s a) else (if mn ≤ decay s d then decay s d else mn)
/-- A calculator's block. -/
def Calc (w : World) (T : TypeId) (g : Nat) (mn mx d a : Int) : Prop := w.heap[g]? = some (.cells #[.int .i64 mn, .int .i64 mx, .int .u64 d, .int .u64 a] T (0, 0))
theorem Calc.below {w w' : World} {T : TypeId} {g : Nat} {mn mx d a : Int} (h : Calc w T g mn mx d a) (hb : Below w.heap.size w w') : Calc w' T g mn mx d a := by
  unfold Calc at *
  rw [hb.block g (Array.getElem?_eq_some_iff.1 h).1]; exact h
theorem Calc.cells {w : World} {T : TypeId} {g : Nat} {mn mx d a : Int} (h : Calc w T g mn mx d a) : w.cell? ⟨g, 0, none⟩ = some (.int .i64 mn) ∧ w.cell? ⟨g, 1, none⟩ = some (.int .i64 mx) ∧ w.cell? ⟨g, 2, none⟩ = some (.int .u64 d) ∧ w.cell? ⟨g, 3, none⟩ = some (.int .u64 a) ∧ g < w.heap.size := by
  unfold Calc at h
  refine ⟨?_, ?_, ?_, ?_, (Array.getElem?_eq_some_iff.1 h).1⟩ <;> simp [World.cell?, h]

theorem pow_facts (n : Nat) (s : Int) (h1 : 1 ≤ n) (h2 : n ≤ 16) (hs : 0 ≤ s) (hs' : s < 1099511627776) :
    2 ≤ (2 : Int) ^ n ∧ (2 : Int) ^ n ≤ 65536 ∧ IntKind.i64.wrap (s * 2 ^ n) = s * 2 ^ n ∧ IntKind.i64.wrap ((2 : Int) ^ n) = 2 ^ n ∧ IntKind.i64.wrap ((2 : Int) ^ n - 1) = 2 ^ n - 1 ∧ ((2 : Int) ^ n - 1 == 0) = false := by
  have p1 : 2 ≤ (2 : Int) ^ n := by
    have := Nat.pow_le_pow_right (show 0 < 2 by decide) h1
    have e : ((2 ^ n : Nat) : Int) = (2 : Int) ^ n := by simp
    omega
  have p2 : (2 : Int) ^ n ≤ 65536 := by
    have := Nat.pow_le_pow_right (show 0 < 2 by decide) h2
    have e : ((2 ^ n : Nat) : Int) = (2 : Int) ^ n := by simp
    omega
  have m0 : 0 ≤ s * 2 ^ n := Int.mul_nonneg hs (by omega)
  have m1 : s * 2 ^ n ≤ 1099511627776 * 65536 := Int.mul_le_mul (by omega) p2 (by omega) (by omega)
  refine ⟨p1, p2, IntWalk.i64_in _ (by omega), IntWalk.i64_in _ (by omega), IntWalk.i64_in _ (by omega), by rw [beq_eq_false_iff_ne]; omega⟩


theorem pw_drew {B : Nat} {a w : World} (h : Below B a w) (n : Nat) : Below B a (w.drewN n) := ⟨h.os, h.tape, h.output, h.size, h.block⟩

set_option maxHeartbeats 1000000 in
theorem s3_chain (g : Nat) (mn mx d a s r t : Int) (n : Nat) (v : Value) (w : World) (hg : Calc w 67 g mn mx d a) (hC : Chain w n t v) :
    Calls Try.prog 20 #[.pointer (some ⟨g, 0, none⟩), .agg #[.int .i64 s, .int .i64 r, v]] w fun e w' => e = .returned (.int .i64 (after mn t)) ∧ Below w.heap.size w w' := by
  obtain ⟨T, x, rfl⟩ := hC.iface
  have HC := Lib.hid hC
  clear hC
  obtain ⟨c0, c1, c2, c3, hgz⟩ := hg.cells
  clear hg
  by_cases ht : t < mn
  · have hr : Hid (after mn t = mn) := Lib.hid (by unfold after; rw [if_pos ht])
    go_enter Try.func20, Try.ntmps20
    go_wp2_with fail
    refine (isra_chain n t _ _ (HC.out.below ((Below.refl _ _).alloc (Nat.le_refl _) _))).mono ?_
    rintro e w1 ⟨rfl, hb⟩
    obtain ⟨hcell, hfr⟩ := bcell hb
    have hz : w.heap.size < w1.heap.size := by have := hb.size; simp at this; omega
    go_wp2
    go_ret
    exact ⟨by rw [hr.out]; rfl, ((Below.refl _ _).alloc (Nat.le_refl _) _).trans (hb.mono (by simp))⟩
  · have hr : Hid (after mn t = t) := Lib.hid (by unfold after; rw [if_neg ht])
    go_enter Try.func20, Try.ntmps20
    go_wp2_with fail
    refine (isra_chain n t _ _ (HC.out.below ((Below.refl _ _).alloc (Nat.le_refl _) _))).mono ?_
    rintro e w1 ⟨rfl, hb⟩
    obtain ⟨hcell, hfr⟩ := bcell hb
    have hz : w.heap.size < w1.heap.size := by have := hb.size; simp at this; omega
    go_wp2
    go_ret
    exact ⟨by rw [hr.out]; rfl, ((Below.refl _ _).alloc (Nat.le_refl _) _).trans (hb.mono (by simp))⟩
set_option maxHeartbeats 1000000 in
theorem s3_dec (g : Nat) (mn mx d a s : Int) (w : World) (hg : Calc w 67 g mn mx d a) (hd : 0 ≤ d) (hd' : d ≤ 16) :
    Calls Try.prog 20 #[.pointer (some ⟨g, 0, none⟩), .agg #[.int .i64 s, .int .i64 0, .nilIface]] w fun e w' => e = .returned (.int .i64 (s3calc mn mx d a s 0)) ∧ Below w.heap.size w w' := by
  obtain ⟨c0, c1, c2, c3, hgz⟩ := hg.cells
  clear hg
  have hr : Hid (s3calc mn mx d a s 0 = _) := Lib.hid (by unfold s3calc; rw [if_neg (by omega)])
  go_enter Try.func20, Try.ntmps20
  go_wp2_with fail
  refine (isra_nil _).mono ?_
  rintro e w1 ⟨rfl, hb⟩
  obtain ⟨hcell, hfr⟩ := bcell hb
  have hz : w.heap.size < w1.heap.size := by have := hb.size; simp at this; omega
  go_wp2
  go_quiet (fail)
  go_wp2
  all_goals
    go_ret
    refine ⟨?_, pw_drew (((Below.refl _ _).alloc (Nat.le_refl _) _).trans (hb.mono (by simp))) _⟩
    rw [hr.out]
    unfold decay
    first | rw [if_pos (by omega)] | rw [if_neg (by omega)] | rfl
    first | rfl | skip
set_option maxHeartbeats 1000000 in
theorem s3_att0 (g : Nat) (mn mx d s r : Int) (x : Value) (w : World) (hg : Calc w 67 g mn mx d 0) (h0 : 0 < r) :
    Calls Try.prog 20 #[.pointer (some ⟨g, 0, none⟩), .agg #[.int .i64 s, .int .i64 r, .iface 75 x]] w fun e w' => e = .returned (.int .i64 mx) ∧ Below w.heap.size w w' := by
  obtain ⟨c0, c1, c2, c3, hgz⟩ := hg.cells
  clear hg
  go_enter Try.func20, Try.ntmps20
  go_wp2_with fail
  refine (isra_75 x _).mono ?_
  rintro e w1 ⟨rfl, hb⟩
  obtain ⟨hcell, hfr⟩ := bcell hb
  have hz : w.heap.size < w1.heap.size := by have := hb.size; simp at this; omega
  go_wp2
  go_ret
  exact ⟨rfl, ((Below.refl _ _).alloc (Nat.le_refl _) _).trans (hb.mono (by simp))⟩
set_option maxHeartbeats 1000000 in
theorem s3_att (g : Nat) (mn mx d s r : Int) (n : Nat) (x : Value) (w : World) (hg : Calc w 67 g mn mx d n) (hn : 1 ≤ n) (hn' : n ≤ 16) (h0 : 0 < r) (hs : 0 < s) (hs' : s < 1099511627776) :
    Calls Try.prog 20 #[.pointer (some ⟨g, 0, none⟩), .agg #[.int .i64 s, .int .i64 r, .iface 75 x]] w fun e w' => e = .returned (.int .i64 (s3calc mn mx d n s r)) ∧ Below w.heap.size w w' := by
  obtain ⟨c0, c1, c2, c3, hgz⟩ := hg.cells
  clear hg
  have hr : Hid (s3calc mn mx d n s r = _) := Lib.hid (by unfold s3calc; rw [if_pos h0, if_neg (by omega)])
  have hn0 : ((n : Int) == 0) = false := by rw [beq_eq_false_iff_ne]; omega
  have hn1 : ((n : Int) != 0) = true := by rw [bne_iff_ne]; omega
  obtain ⟨p1, p2, e1, e2, e3, e4⟩ := pow_facts n s hn hn' (by omega) hs'
  go_enter Try.func20, Try.ntmps20
  go_wp2_with fail
  refine (isra_75 x _).mono ?_
  rintro e w1 ⟨rfl, hb⟩
  obtain ⟨hcell, hfr⟩ := bcell hb
  have hz : w.heap.size < w1.heap.size := by have := hb.size; simp at this; omega
  go_wp2
  go_quiet (fail)
  go_wp2
  all_goals
    go_ret
    refine ⟨?_, pw_drew (((Below.refl _ _).alloc (Nat.le_refl _) _).trans (hb.mono (by simp))) _⟩
    rw [hr.out, if_neg (by omega)]
    unfold attack
    rw [Int.toNat_natCast]
    first | rw [if_pos (by omega)] | rw [if_neg (by omega)]
    rfl

set_option maxHeartbeats 1000000 in
theorem df_chain (g : Nat) (mn mx d a s r t : Int) (n : Nat) (v : Value) (w : World) (hg : Calc w 90 g mn mx d a) (hC : Chain w n t v) :
    Calls Try.prog 30 #[.pointer (some ⟨g, 0, none⟩), .agg #[.int .i64 s, .int .i64 r, v]] w fun e w' => e = .returned (.int .i64 (after mn t)) ∧ Below w.heap.size w w' := by
  obtain ⟨T, x, rfl⟩ := hC.iface
  have HC := Lib.hid hC
  clear hC
  obtain ⟨c0, c1, c2, c3, hgz⟩ := hg.cells
  clear hg
  by_cases ht : t < mn
  · have hr : Hid (after mn t = mn) := Lib.hid (by unfold after; rw [if_pos ht])
    go_enter Try.func30, Try.ntmps30
    go_wp2_with fail
    refine (isra_chain n t _ _ (HC.out.below ((Below.refl _ _).alloc (Nat.le_refl _) _))).mono ?_
    rintro e w1 ⟨rfl, hb⟩
    obtain ⟨hcell, hfr⟩ := bcell hb
    have hz : w.heap.size < w1.heap.size := by have := hb.size; simp at this; omega
    go_wp2
    go_ret
    exact ⟨by rw [hr.out]; rfl, ((Below.refl _ _).alloc (Nat.le_refl _) _).trans (hb.mono (by simp))⟩
  · have hr : Hid (after mn t = t) := Lib.hid (by unfold after; rw [if_neg ht])
    go_enter Try.func30, Try.ntmps30
    go_wp2_with fail
    refine (isra_chain n t _ _ (HC.out.below ((Below.refl _ _).alloc (Nat.le_refl _) _))).mono ?_
    rintro e w1 ⟨rfl, hb⟩
    obtain ⟨hcell, hfr⟩ := bcell hb
    have hz : w.heap.size < w1.heap.size := by have := hb.size; simp at this; omega
    go_wp2
    go_ret
    exact ⟨by rw [hr.out]; rfl, ((Below.refl _ _).alloc (Nat.le_refl _) _).trans (hb.mono (by simp))⟩
set_option maxHeartbeats 1000000 in
theorem df_dec (g : Nat) (mn mx d a s : Int) (w : World) (hg : Calc w 90 g mn mx d a) (hd : 0 ≤ d) (hd' : d ≤ 16) :
    Calls Try.prog 30 #[.pointer (some ⟨g, 0, none⟩), .agg #[.int .i64 s, .int .i64 0, .nilIface]] w fun e w' => e = .returned (.int .i64 (dfcalc mn mx d a s 0)) ∧ Below w.heap.size w w' := by
  obtain ⟨c0, c1, c2, c3, hgz⟩ := hg.cells
  clear hg
  have hr : Hid (dfcalc mn mx d a s 0 = _) := Lib.hid (by unfold dfcalc; rw [if_neg (by omega)])
  go_enter Try.func30, Try.ntmps30
  go_wp2_with fail
  refine (isra_nil _).mono ?_
  rintro e w1 ⟨rfl, hb⟩
  obtain ⟨hcell, hfr⟩ := bcell hb
  have hz : w.heap.size < w1.heap.size := by have := hb.size; simp at this; omega
  go_wp2
  go_quiet (fail)
  go_wp2
  all_goals
    go_ret
    refine ⟨?_, pw_drew (((Below.refl _ _).alloc (Nat.le_refl _) _).trans (hb.mono (by simp))) _⟩
    rw [hr.out]
    unfold decay
    first | rw [if_pos (by omega)] | rw [if_neg (by omega)] | rfl
    first | rfl | skip
set_option maxHeartbeats 1000000 in
theorem df_att0 (g : Nat) (mn mx d s r : Int) (x : Value) (w : World) (hg : Calc w 90 g mn mx d 0) (h0 : 0 < r) :
    Calls Try.prog 30 #[.pointer (some ⟨g, 0, none⟩), .agg #[.int .i64 s, .int .i64 r, .iface 75 x]] w fun e w' => e = .returned (.int .i64 mx) ∧ Below w.heap.size w w' := by
  obtain ⟨c0, c1, c2, c3, hgz⟩ := hg.cells
  clear hg
  go_enter Try.func30, Try.ntmps30
  go_wp2_with fail
  refine (isra_75 x _).mono ?_
  rintro e w1 ⟨rfl, hb⟩
  obtain ⟨hcell, hfr⟩ := bcell hb
  have hz : w.heap.size < w1.heap.size := by have := hb.size; simp at this; omega
  go_wp2
  go_ret
  exact ⟨rfl, ((Below.refl _ _).alloc (Nat.le_refl _) _).trans (hb.mono (by simp))⟩
set_option maxHeartbeats 1000000 in
theorem df_att (g : Nat) (mn mx d s r : Int) (n : Nat) (x : Value) (w : World) (hg : Calc w 90 g mn mx d n) (hn : 1 ≤ n) (hn' : n ≤ 16) (h0 : 0 < r) (hs : 0 ≤ s) (hs' : s < 1099511627776) :
    Calls Try.prog 30 #[.pointer (some ⟨g, 0, none⟩), .agg #[.int .i64 s, .int .i64 r, .iface 75 x]] w fun e w' => e = .returned (.int .i64 (dfcalc mn mx d n s r)) ∧ Below w.heap.size w w' := by
  obtain ⟨c0, c1, c2, c3, hgz⟩ := hg.cells
  clear hg
  have hr : Hid (dfcalc mn mx d n s r = _) := Lib.hid (by unfold dfcalc; rw [if_pos h0, if_neg (by omega)])
  have hn0 : ((n : Int) == 0) = false := by rw [beq_eq_false_iff_ne]; omega
  have hn1 : ((n : Int) != 0) = true := by rw [bne_iff_ne]; omega
  obtain ⟨p1, p2, e1, e2, e3, e4⟩ := pow_facts n s hn hn' (by omega) hs'
  go_enter Try.func30, Try.ntmps30
  go_wp2_with fail
  refine (isra_75 x _).mono ?_
  rintro e w1 ⟨rfl, hb⟩
  obtain ⟨hcell, hfr⟩ := bcell hb
  have hz : w.heap.size < w1.heap.size := by have := hb.size; simp at this; omega
  go_wp2
  go_quiet (fail)
  go_wp2
  all_goals
    go_ret
    refine ⟨?_, pw_drew (((Below.refl _ _).alloc (Nat.le_refl _) _).trans (hb.mono (by simp))) _⟩
    rw [hr.out]
    unfold attack
    rw [Int.toNat_natCast]
    first | rw [if_pos (by omega)] | rw [if_neg (by omega)]
    rfl

set_option maxHeartbeats 1000000 in
theorem s3_att_zero (g : Nat) (mn mx d a r : Int) (x : Value) (w : World) (hg : Calc w 67 g mn mx d a) (ha : 0 < a) (h0 : 0 < r) :
    Calls Try.prog 20 #[.pointer (some ⟨g, 0, none⟩), .agg #[.int .i64 0, .int .i64 r, .iface 75 x]] w fun e w' => e = .returned (.int .i64 mn) ∧ Below w.heap.size w w' := by
  obtain ⟨c0, c1, c2, c3, hgz⟩ := hg.cells
  clear hg
  have ha0 : (a == 0) = false := by rw [beq_eq_false_iff_ne]; omega
  go_enter Try.func20, Try.ntmps20
  go_wp2_with fail
  refine (isra_75 x _).mono ?_
  rintro e w1 ⟨rfl, hb⟩
  obtain ⟨hcell, hfr⟩ := bcell hb
  have hz : w.heap.size < w1.heap.size := by have := hb.size; simp at this; omega
  go_wp2
  go_ret
  exact ⟨rfl, ((Below.refl _ _).alloc (Nat.le_refl _) _).trans (hb.mono (by simp))⟩
def azure (s r : Int) : Int := if r = 0 then 0 else if 4 < r then s else s + (if r = 1 then 2 else if r = 2 then 4 else if r = 3 then 8 else 16) * 1000000000
set_option maxHeartbeats 1000000 in
theorem az_calc (p : Value) (s r : Int) (v : Value) (hv : v = .nilIface ∨ ∃ T x, v = .iface T x) (w : World) (h0 : 0 ≤ r) (hs : 0 ≤ s) (hs' : s < 1099511627776) :
    Calls Try.prog 16 #[p, .agg #[.int .i64 s, .int .i64 r, v]] w fun e w' => e = .returned (.int .i64 (azure s r)) ∧ Below w.heap.size w w' := by
  have hc : r = 0 ∨ 4 < r ∨ r = 1 ∨ r = 2 ∨ r = 3 ∨ r = 4 := by omega
  rcases hv with rfl | ⟨T, x, rfl⟩
  all_goals
    rcases hc with rfl | hc | rfl | rfl | rfl | rfl
    · go_enter Try.func16, Try.ntmps16
      go_wp2
      go_ret
      exact ⟨rfl, (Below.refl _ _).alloc (Nat.le_refl _) _⟩
    · have hr : (r == 0) = false := by rw [beq_eq_false_iff_ne]; omega
      have ha : Hid (azure s r = s) := Lib.hid (by unfold azure; rw [if_neg (by omega), if_pos hc])
      go_enter Try.func16, Try.ntmps16
      go_wp2
      go_ret
      exact ⟨by rw [ha.out]; simp, (Below.refl _ _).alloc (Nat.le_refl _) _⟩
    all_goals
      go_enter Try.func16, Try.ntmps16
      go_wp2
      go_ret
      exact ⟨by simp [azure]; omega, (Below.refl _ _).alloc (Nat.le_refl _) _⟩
end Go.Proofs.Ytgdjplpbpknfmaa.Given
