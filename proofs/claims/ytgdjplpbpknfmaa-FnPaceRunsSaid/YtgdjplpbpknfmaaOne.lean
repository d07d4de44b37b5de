/- The contracts of PaceAzure, and of the two calculators at any state. -/
import Derived.Test.YtgdjplpbpknfmaaNew
import Derived.Deep.RegionWith
namespace Go.Proofs.Ytgdjplpbpknfmaa.Given
open Go.RowKit
set_option linter.unusedVariables false
set_option linter.unusedSimpArgs false
set_option maxHeartbeats 400000 in
theorem mkAz (w : World) :
    Calls Try.prog 15 #[] w fun e w' => e = .returned (.pointer (some ⟨w.heap.size, 0, none⟩)) ∧ Below w.heap.size w w' := by
  go_enter Try.func15, Try.ntmps15
  go_wp2
  go_ret
  exact ⟨rfl, (Below.refl _ _).alloc (Nat.le_refl _) _⟩
theorem ErrOf.shape {w : World} {r a x : Int} {v : Value} (h : ErrOf w r a x v) : v = .nilIface ∨ ∃ T x, v = .iface T x := by
  unfold ErrOf at h
  split at h
  · exact .inr h.iface
  · split at h
    · obtain ⟨p, rfl⟩ := h; exact .inr ⟨_, _, rfl⟩
    · exact .inl h
theorem undrew {W w1 : World} (h : Below W.drew.heap.size W.drew w1) : Below W.heap.size W w1 := ⟨h.os, h.tape, h.output, h.size, h.block⟩
theorem below3 {w : World} {o : Obj} {w1 w2 w3 : World} (h1 : Below (w.alloc o).heap.size (w.alloc o) w1) (h2 : Below w1.heap.size w1 w2) (h3 : Below w2.heap.size w2 w3) : Below w.heap.size w w3 := by
  have z1 := h1.size
  have z2 := h2.size
  simp at z1
  exact (((Below.refl w.heap.size w).alloc (Nat.le_refl _) o).trans (h1.mono (by simp))).trans ((h2.mono (by omega)).trans (h3.mono (by omega)))
theorem below3' {w : World} {o o' : Obj} {w1 w2 w3 : World} (h1 : Below ((w.alloc o).alloc o').heap.size ((w.alloc o).alloc o') w1) (h2 : Below w1.heap.size w1 w2) (h3 : Below w2.heap.size w2 w3) : Below w.heap.size w w3 := by
  have z1 := h1.size
  have z2 := h2.size
  simp at z1
  exact ((((Below.refl w.heap.size w).alloc (Nat.le_refl _) o).alloc (by simp) o').trans (h1.mono (by simp; omega))).trans ((h2.mono (by omega)).trans (h3.mono (by omega)))
set_option maxHeartbeats 4000000 in
theorem paceAzure (s r a x : Int) (w : World) (hx0 : 0 ≤ x) (hx1 : x ≤ 1000) (h0 : 0 ≤ r) (hs : 0 ≤ s) (hs' : s < 1099511627776) :
    Calls Try.prog 8 #[.agg #[.int .i64 s, .int .i64 r, .int .i64 a, .int .i64 x]] w fun e w' => e = .returned (.int .i64 (azure s r)) ∧ Below w.heap.size w w' := by
  go_enter Try.func8, Try.ntmps8
  go_wp2
  go_region_with (first | (go_at_call 15; refine (mkAz _).mono ?_; rintro e w1 ⟨rfl, hb1⟩; obtain ⟨hcell1, hfr1⟩ := bcell hb1; have hz1 : w.heap.size < w1.heap.size := by have := hb1.size; simp at this; omega) | (go_at_call 17; refine (pst s r a x _ hx0 hx1).mono ?_; rintro e w2 ⟨v, rfl, hv, hb2⟩; have HV := Lib.hid hv.shape; clear hv) | (go_at_call 16; refine (az_calc _ s r v HV.out _ h0 hs hs').mono ?_; rintro e w3 ⟨rfl, hb3⟩))
  all_goals
    go_wp2
    go_simp
    go_ret
    first | exact ⟨rfl, below3 hb1 hb2 hb3⟩ | exact ⟨rfl, below3 (undrew hb1) hb2 hb3⟩

/-- What a calculator tells of options and a state. -/
def paceOf (kk : Int → Int → Int → Int → Int → Int → Int) (mn mx d a s r t x : Int) : Int :=
  if 0 ≤ t ∧ (0 < r ∨ 0 < t ∨ 0 < x) then after mn t else kk mn mx d a s r

theorem s3_any (g : Nat) (mn mx d a s r t x : Int) (v : Value) (w : World) (hg : Calc w 67 g mn mx d a) (hv : ErrOf w r t x v) (hd : 0 ≤ d) (hd' : d ≤ 16) (ha : 0 ≤ a) (ha' : a ≤ 16) (h0 : 0 ≤ r) (hs : 0 ≤ s) (hs' : s < 1099511627776) :
    Calls Try.prog 20 #[.pointer (some ⟨g, 0, none⟩), .agg #[.int .i64 s, .int .i64 r, v]] w fun e w' => e = .returned (.int .i64 (paceOf s3calc mn mx d a s r t x)) ∧ Below w.heap.size w w' := by
  unfold ErrOf at hv
  unfold paceOf
  by_cases c : 0 ≤ t ∧ (0 < r ∨ 0 < t ∨ 0 < x)
  · rw [if_pos c] at hv ⊢
    exact s3_chain g mn mx d a s r t _ v w hg hv
  · rw [if_neg c] at hv ⊢
    by_cases c2 : 0 < r
    · rw [if_pos c2] at hv
      obtain ⟨p, rfl⟩ := hv
      by_cases c3 : a = 0
      · subst c3
        have e : s3calc mn mx d 0 s r = mx := by unfold s3calc; rw [if_pos c2, if_pos rfl]
        rw [e]
        exact s3_att0 g mn mx d s r p w hg c2
      · by_cases c4 : s = 0
        · subst c4
          have e : s3calc mn mx d a 0 r = mn := by unfold s3calc; rw [if_pos c2, if_neg c3, if_pos rfl]
          rw [e]
          exact s3_att_zero g mn mx d a r p w hg (by omega) c2
        · obtain ⟨n, rfl⟩ := Int.eq_ofNat_of_zero_le ha
          exact s3_att g mn mx d s r n p w hg (by omega) (by omega) c2 (by omega) hs'
    · rw [if_neg c2] at hv
      subst hv
      obtain rfl : r = 0 := by omega
      exact s3_dec g mn mx d a s w hg hd hd'
theorem df_any (g : Nat) (mn mx d a s r t x : Int) (v : Value) (w : World) (hg : Calc w 90 g mn mx d a) (hv : ErrOf w r t x v) (hd : 0 ≤ d) (hd' : d ≤ 16) (ha : 0 ≤ a) (ha' : a ≤ 16) (h0 : 0 ≤ r) (hs : 0 ≤ s) (hs' : s < 1099511627776) :
    Calls Try.prog 30 #[.pointer (some ⟨g, 0, none⟩), .agg #[.int .i64 s, .int .i64 r, v]] w fun e w' => e = .returned (.int .i64 (paceOf dfcalc mn mx d a s r t x)) ∧ Below w.heap.size w w' := by
  unfold ErrOf at hv
  unfold paceOf
  by_cases c : 0 ≤ t ∧ (0 < r ∨ 0 < t ∨ 0 < x)
  · rw [if_pos c] at hv ⊢
    exact df_chain g mn mx d a s r t _ v w hg hv
  · rw [if_neg c] at hv ⊢
    by_cases c2 : 0 < r
    · rw [if_pos c2] at hv
      obtain ⟨p, rfl⟩ := hv
      by_cases c3 : a = 0
      · subst c3
        have e : dfcalc mn mx d 0 s r = mx := by unfold dfcalc; rw [if_pos c2, if_pos rfl]
        rw [e]
        exact df_att0 g mn mx d s r p w hg c2
      · obtain ⟨n, rfl⟩ := Int.eq_ofNat_of_zero_le ha
        exact df_att g mn mx d s r n p w hg (by omega) (by omega) c2 (by omega) hs'
    · rw [if_neg c2] at hv
      subst hv
      obtain rfl : r = 0 := by omega
      exact df_dec g mn mx d a s w hg hd hd'
theorem gv_lo {x d : Int} (hd : 0 ≤ d) : 0 ≤ gv x d := by unfold gv; split <;> omega
theorem gv_hi {x d b : Int} (hx : x ≤ b) (hd : d ≤ b) : gv x d ≤ b := by unfold gv; split <;> omega
end Go.Proofs.Ytgdjplpbpknfmaa.Given
