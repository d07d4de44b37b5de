/- The walk of laws.FnMaskBack. -/
import Derived.Test.YtjabjcgomnjpcaaDoorMb
import Derived.Test.YtjabjcgomnjpcaaDoorMs
namespace Go.Proofs.YtjabjcgomnjpcaaDoor.Given
open Go.RowKit Go.Proofs.YtjabjcgomnjpcaaDoorW.PrintWords Go.Proofs.YtjabjcgomnjpcaaDoorW.PrintLast Go.Proofs.YtjabjcgomnjpcaaDoorW.PrintMore Go.Proofs.YtjabjcgomnjpcaaDoor.PM
open Go.Proofs.YtjabjcgomnjpcaaDoor.Zp
set_option linter.unusedVariables false
set_option linter.unusedSimpArgs false

/-- What the walk asks of the world. -/
structure Bv (w : World) : Prop where
  ev : Ev w
  dv : Dv w
theorem Bv.below {w w' : World} (h : Bv w) (hb : Below w.heap.size w w') : Bv w' := ⟨h.ev.below hb, h.dv.below hb⟩
theorem back10 (p : Int) (m : Nat) (w : World) (hm : m < 2 ^ 64) (hE : Ev w) : Calls Tryd.prog 10 #[.int .u64 p, .string (strB (specM m))] w fun e w' => e = .returned (.tuple #[.int .u64 (m : Int), .bool true]) ∧ Below w.heap.size w w' := by
  refine (mset10 p (strB (specM m)) w (by rw [size_strB]; have := spec_len m; omega) (by rw [tl_strB]; exact spec_ascii m) hE).mono ?_
  rintro e w' ⟨rfl, h⟩
  rw [tl_strB, spec_back hm]
  exact ⟨rfl, h⟩
set_option maxHeartbeats 4000000 in
set_option maxRecDepth 100000 in
theorem law5 (p m : Int) (w : World) (h0 : 0 ≤ m) (h1 : m < 18446744073709551616) (h : Bv w) : Calls Tryd.prog 5 #[.int .u64 p, .int .u64 m] w fun e w' => e = .returned (.bool true) ∧ Below w.heap.size w w' := by
  obtain ⟨n, rfl⟩ : ∃ n : Nat, m = (n : Int) := ⟨m.toNat, by omega⟩
  have c6 := impl6 n w (by omega) h.dv
  have c60 : ∀ W, Dv W → Calls Tryd.prog 6 #[.int .u64 0] W fun e w' => e = .returned (.string ⟨#[78, 111, 110, 101]⟩) ∧ Below W.heap.size W w' := fun W hD => impl6 0 W (by decide) hD
  have c10 := fun W (hE : Ev W) => back10 p n W (by omega) hE
  obtain ⟨t, ht⟩ : ∃ t, strB (specM n) = t := ⟨_, rfl⟩
  rw [ht] at c6 c10
  obtain ⟨z, hz⟩ : ∃ z : Int, (n : Int) = z := ⟨_, rfl⟩
  rw [hz] at c6 c10 ⊢
  clear ht h0 h1 hz
  go_enter Tryd.func5, Tryd.ntmps5
  go_wp2_with (first | (go_at_call 6; refine c6.mono ?_; rintro e w1 ⟨rfl, h1⟩; have B1 := h.below h1; clear c6) | (go_at_call 10; refine (c10 _ B1.ev).mono ?_; rintro e w2 ⟨rfl, h2⟩; have B2 := B1.below h2; have k2 := h1.trans (h2.mono h1.size); clear c10) | (go_at_call 6; refine (c60 _ B2.dv).mono ?_; rintro e w3 ⟨rfl, h3⟩; have k3 := k2.trans (h3.mono k2.size)))
  go_ret
  exact ⟨rfl, k3⟩
end Go.Proofs.YtjabjcgomnjpcaaDoor.Given
