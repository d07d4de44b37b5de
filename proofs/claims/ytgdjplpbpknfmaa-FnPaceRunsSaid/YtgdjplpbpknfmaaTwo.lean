/- The contracts of PaceS3 and PaceDefault: the sleep time that a calculator of options tells of a state. -/
import Derived.Test.YtgdjplpbpknfmaaOne
namespace Go.Proofs.Ytgdjplpbpknfmaa.Given
open Go.RowKit
set_option linter.unusedVariables false
set_option linter.unusedSimpArgs false

set_option maxRecDepth 100000 in
set_option maxHeartbeats 1000000 in
theorem paceS3 (mn mx d a s r t x : Int) (w : World) (hd : d ≤ 16) (ha : a ≤ 16) (hx0 : 0 ≤ x) (hx1 : x ≤ 1000) (h0 : 0 ≤ r) (hs : 0 ≤ s) (hs' : s < 1099511627776) :
    Calls Try.prog 10 #[.agg #[.int .i64 mn, .int .i64 mx, .int .i64 d, .int .i64 a], .agg #[.int .i64 s, .int .i64 r, .int .i64 t, .int .i64 x]] w fun e w' =>
      e = .returned (.int .i64 (paceOf s3calc (gv mn 0) (gv mx 2000000000) (gv d 2) (gv a 1) s r t x)) ∧ Below w.heap.size w w' := by
  go_enter Try.func10, Try.ntmps10
  go_wp2
  go_region_with (first | (go_at_call 19; refine (s3_new mn mx d a _ hd ha).mono ?_; rintro e w1 ⟨rfl, hC, hb1⟩; have HC : Hid (Calc w1 67 (w.heap.size + 1 + 1 + 1) (gv mn 0) (gv mx 2000000000) (gv d 2) (gv a 1)) := Lib.hid (by simpa using hC); clear hC; obtain ⟨hcell1, hfr1⟩ := bcell hb1; have hz1 : w.heap.size + 1 < w1.heap.size := by have := hb1.size; simp at this; omega) | (go_at_call 17; refine (pst s r t x _ hx0 hx1).mono ?_; rintro e w2 ⟨v, rfl, hv, hb2⟩; have HV := Lib.hid hv; have HC2 := Lib.hid (HC.out.below hb2); clear hv) | (go_at_call 20; refine (s3_any _ _ _ _ _ s r t x v _ HC2.out HV.out (gv_lo (by decide)) (gv_hi hd (by decide)) (gv_lo (by decide)) (gv_hi ha (by decide)) h0 hs hs').mono ?_; rintro e w3 ⟨rfl, hb3⟩))
  all_goals
    go_wp2
    go_simp
    go_ret
    first | exact ⟨rfl, below3' hb1 hb2 hb3⟩ | exact ⟨rfl, below3' (undrew hb1) hb2 hb3⟩

set_option maxRecDepth 100000 in
set_option maxHeartbeats 1000000 in
theorem paceDf (mn mx d a s r t x : Int) (w : World) (hd : d ≤ 16) (ha : a ≤ 16) (hx0 : 0 ≤ x) (hx1 : x ≤ 1000) (h0 : 0 ≤ r) (hs : 0 ≤ s) (hs' : s < 1099511627776) :
    Calls Try.prog 21 #[.agg #[.int .i64 mn, .int .i64 mx, .int .i64 d, .int .i64 a], .agg #[.int .i64 s, .int .i64 r, .int .i64 t, .int .i64 x]] w fun e w' =>
      e = .returned (.int .i64 (paceOf dfcalc (gv mn 10000000) (gv mx 2000000000) (gv d 2) (gv a 1) s r t x)) ∧ Below w.heap.size w w' := by
  go_enter Try.func21, Try.ntmps21
  go_wp2
  go_region_with (first | (go_at_call 29; refine (df_new mn mx d a _ hd ha).mono ?_; rintro e w1 ⟨rfl, hC, hb1⟩; have HC : Hid (Calc w1 90 (w.heap.size + 1 + 1 + 1) (gv mn 10000000) (gv mx 2000000000) (gv d 2) (gv a 1)) := Lib.hid (by simpa using hC); clear hC; obtain ⟨hcell1, hfr1⟩ := bcell hb1; have hz1 : w.heap.size + 1 < w1.heap.size := by have := hb1.size; simp at this; omega) | (go_at_call 17; refine (pst s r t x _ hx0 hx1).mono ?_; rintro e w2 ⟨v, rfl, hv, hb2⟩; have HV := Lib.hid hv; have HC2 := Lib.hid (HC.out.below hb2); clear hv) | (go_at_call 30; refine (df_any _ _ _ _ _ s r t x v _ HC2.out HV.out (gv_lo (by decide)) (gv_hi hd (by decide)) (gv_lo (by decide)) (gv_hi ha (by decide)) h0 hs hs').mono ?_; rintro e w3 ⟨rfl, hb3⟩))
  all_goals
    go_wp2
    go_simp
    go_ret
    first | exact ⟨rfl, below3' hb1 hb2 hb3⟩ | exact ⟨rfl, below3' (undrew hb1) hb2 hb3⟩

end Go.Proofs.Ytgdjplpbpknfmaa.Given
