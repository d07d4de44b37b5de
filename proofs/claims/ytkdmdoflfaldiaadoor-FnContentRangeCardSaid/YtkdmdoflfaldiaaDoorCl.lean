/- The walk of laws.FnContentRange. -/
import Derived.Test.YtkdmdoflfaldiaaDoorCs
namespace Go.Proofs.YtkdmdoflfaldiaaDoor.Given
open Go.RowKit Go.Proofs.YtkdmdoflfaldiaaDoorW.PrintWords Go.Proofs.YtkdmdoflfaldiaaDoorW.PrintLast Go.Proofs.YtkdmdoflfaldiaaDoorW.PrintMore
open Go.Proofs.YtkdmdoflfaldiaaDoor.Zp
set_option linter.unusedVariables false
set_option linter.unusedSimpArgs false

set_option maxHeartbeats 4000000 in
set_option maxRecDepth 100000 in
theorem read5 (s : ByteArray) (w : World) (hs : s.size ≤ 1000000) (hE : Ev w) :
    Calls Tryd.prog 5 #[.string s] w fun e w' => e = .returned (ansS (rdI (tl s))) ∧ Below w.heap.size w w' := by
  have c7 := parse7 s w hs hE
  obtain ⟨r, hr⟩ : ∃ r, rdI (tl s) = r := ⟨_, rfl⟩
  rw [hr] at c7 ⊢
  clear hr
  cases r with
  | none =>
    go_enter Tryd.func5, Tryd.ntmps5
    go_wp2_with (go_at_call 7; refine c7.mono ?_; rintro e w1 ⟨v, rfl, ⟨a, b, c, t, p, rfl⟩, h1⟩)
    refine bodyPost_ret (results_tmp4 rfl _ _ _) rfl ?_
    exact ⟨rfl, h1.alloc h1.size _⟩
  | some x =>
    obtain ⟨a, b, c⟩ := x
    go_enter Tryd.func5, Tryd.ntmps5
    go_wp2_with (go_at_call 7; refine c7.mono ?_; rintro e w1 ⟨v, rfl, rfl, h1⟩; have hb2 := h1.alloc h1.size (.cells #[.int .i64 a, .int .i64 b, .int .i64 c] 27); have hh := heap_alloc_new w1 (.cells #[.int .i64 a, .int .i64 b, .int .i64 c] 27))
    obtain ⟨X, hX⟩ : ∃ X, w1.alloc (.cells #[.int .i64 a, .int .i64 b, .int .i64 c] 27) = X := ⟨_, rfl⟩
    obtain ⟨g, hg⟩ : ∃ g, w1.heap.size = g := ⟨_, rfl⟩
    rw [hX] at hb2 hh ⊢
    rw [hg] at hh ⊢
    have y0 : ∀ n, (X.drewN n).cell? ⟨g, 0, none⟩ = some (.int .i64 a) := fun n => by
      have := (below_drewN' (Below.refl X.heap.size X) n).cell (p := ⟨g, 0, none⟩) (Array.getElem?_eq_some_iff.1 hh).1
      rw [this, Lib.cell_of_heap hh]; rfl
    have y1 : ∀ n, (X.drewN n).cell? ⟨g, 1, none⟩ = some (.int .i64 b) := fun n => by
      have := (below_drewN' (Below.refl X.heap.size X) n).cell (p := ⟨g, 1, none⟩) (Array.getElem?_eq_some_iff.1 hh).1
      rw [this, Lib.cell_of_heap hh]; rfl
    have y2 : ∀ n, (X.drewN n).cell? ⟨g, 2, none⟩ = some (.int .i64 c) := fun n => by
      have := (below_drewN' (Below.refl X.heap.size X) n).cell (p := ⟨g, 2, none⟩) (Array.getElem?_eq_some_iff.1 hh).1
      rw [this, Lib.cell_of_heap hh]; rfl
    have hb3 : Hid (Below w.heap.size w X) := hb2
    clear hX hg hh hb2 h1 c7 hE
    go_quiet (fail)
    go_wp2_with fail
    refine bodyPost_ret (results_tmp4 rfl _ _ _) rfl ?_
    exact ⟨rfl, below_drewN' hb3.out _⟩
set_option maxRecDepth 100000 in
theorem awake_is : rdI (tl ⟨#[98, 121, 116, 101, 115, 32, 50, 45, 53, 47, 49, 48]⟩) = some (2, 5, 10) := by decide +kernel
set_option maxHeartbeats 1000000 in
theorem awake4 (w : World) (hE : Ev w) : Calls Tryd.prog 4 #[] w fun e w' => e = .returned (.bool true) ∧ Below w.heap.size w w' := by
  have c5 := fun W h => read5 ⟨#[98, 121, 116, 101, 115, 32, 50, 45, 53, 47, 49, 48]⟩ W (by decide) h
  rw [awake_is] at c5
  go_enter Tryd.func4, Tryd.ntmps4
  go_wp2_with (go_at_call 5; refine (c5 _ hE).mono ?_; rintro e w1 ⟨rfl, h1⟩; unfold ansS)
  go_ret
  exact ⟨rfl, h1⟩
set_option maxHeartbeats 4000000 in
set_option maxRecDepth 100000 in
theorem law3 (s : ByteArray) (w : World) (hE : Ev w) : Calls Tryd.prog 3 #[.string s] w fun e w' => e = .returned (.bool true) ∧ Below w.heap.size w w' := by
  by_cases hs : s.size ≤ 2147483647
  · have hs1 : ((s.size : Int) > 2147483647) = False := by simp; omega
    by_cases hs2 : s.size ≤ 5000
    · have hs3 : ((s.size : Int) > 5000) = False := by simp; omega
      have c4 := fun W h => awake4 W h
      have c5 := fun W h => read5 s W (by omega) h
      have c6 := fun W => spec6 s W (by omega)
      have hrd : Hid ((∀ b ∈ tl s, b ≠ 43) → rdI (tl s) = spR (tl s)) := Lib.hid (fun h => rd_is h)
      obtain ⟨r, hr⟩ : ∃ r, rdI (tl s) = r := ⟨_, rfl⟩
      obtain ⟨r', hr'⟩ : ∃ r, spR (tl s) = r := ⟨_, rfl⟩
      rw [hr] at c5 hrd
      rw [hr'] at c6 hrd
      have hs2' : Hid (s.size ≤ 5000) := hs2
      clear hr hr' hs hs2
      go_enter Tryd.func3, Tryd.ntmps3
      go_wp2
      go_loopg [20] s.size (fun gf s20 wx => ∃ i : Nat, s20 = .int .i64 (i : Int) ∧ wx = w ∧ i ≤ s.size ∧ s.size ≤ i + gf ∧ Hid (∀ b ∈ (tl s).take i, b ≠ 43))
      case atStart => exact ⟨0, rfl, rfl, Nat.zero_le _, by omega, Lib.hid (fun b hb => by simp at hb)⟩
      case round =>
        obtain ⟨i, rfl, rfl, hi, hg, hH⟩ := hrel
        have hsz := hs2'.out
        have w1 : wrap64 ((i : Int) + 1) = ((i + 1 : Nat) : Int) := w64n (k := 1) (by omega)
        by_cases hin : i < s.size
        · obtain ⟨g', rfl⟩ : ∃ g', gk = g' + 1 := ⟨gk - 1, by omega⟩
          have c1 : (i : Int) < (s.size : Int) := by omega
          have hil : i < (tl s).length := by rw [tl_size]; exact hin
          have hge : s[i]'hin = (tl s)[i] := rfl
          by_cases h43 : (tl s)[i] = 43
          · have hb : (((s[i]'hin).toNat : Int) == 43) = true := by rw [hge, h43]; rfl
            clear hH hge h43 hil
            go_wp2
            go_ret
            exact ⟨rfl, Below.refl _ _⟩
          · have hb : (((s[i]'hin).toNat : Int) == 43) = false := by
              rw [hge, beq_eq_false_iff_ne]
              intro e
              apply h43
              have : ((tl s)[i]).toNat = 43 := by omega
              exact UInt8.toNat_inj.1 this
            have hH2 : Hid (∀ b ∈ (tl s).take (i + 1), b ≠ 43) := Lib.hid (fun b hb => by
              rw [List.take_succ_eq_append_getElem hil, List.mem_append, List.mem_singleton] at hb
              rcases hb with hb | rfl
              · exact hH.out b hb
              · exact h43)
            clear hH hge h43 hil
            go_wp2
            go_roundg g'
            case measure => omega
            case rel => exact ⟨i + 1, by simp, rfl, by omega, by omega, hH2⟩
        · have c1 : ((i : Int) < (s.size : Int)) = False := by simp; omega
          have hall : ∀ b ∈ tl s, b ≠ 43 := by
            have h1 := hH.out
            rw [List.take_of_length_le (by rw [tl_size]; omega)] at h1
            exact h1
          have e1 := hrd.out hall
          subst e1
          clear hH hall hrd hi hin hg hsz
          cases r with
          | none =>
            go_wp2_with (first | (go_at_call 4; refine (c4 _ hE).mono ?_; rintro e w1 ⟨rfl, h1⟩; have E1 := hE.below h1; clear c4) | (go_at_call 5; refine (c5 _ E1).mono ?_; rintro e w2 ⟨rfl, h2⟩; unfold ansS; clear c5; have B2 := h1.trans (h2.mono h1.size)) | (go_at_call 6; refine (c6 _).mono ?_; rintro e w3 ⟨rfl, h3⟩; unfold ansS; clear c6; have B3 := B2.trans (h3.mono B2.size)))
            go_ret
            exact ⟨rfl, B3⟩
          | some x =>
            obtain ⟨a, b, c⟩ := x
            go_wp2_with (first | (go_at_call 4; refine (c4 _ hE).mono ?_; rintro e w1 ⟨rfl, h1⟩; have E1 := hE.below h1; clear c4) | (go_at_call 5; refine (c5 _ E1).mono ?_; rintro e w2 ⟨rfl, h2⟩; unfold ansS; clear c5; have B2 := h1.trans (h2.mono h1.size)) | (go_at_call 6; refine (c6 _).mono ?_; rintro e w3 ⟨rfl, h3⟩; unfold ansS; clear c6; have B3 := B2.trans (h3.mono B2.size)))
            go_ret
            exact ⟨rfl, B3⟩
    · have hs3 : ((s.size : Int) > 5000) = True := by simp; omega
      go_enter Tryd.func3, Tryd.ntmps3
      go_wp2
      go_ret
      exact ⟨rfl, Below.refl _ _⟩
  · have hs1 : ((s.size : Int) > 2147483647) = True := by simp; omega
    go_enter Tryd.func3, Tryd.ntmps3
    go_wp2
    go_ret
    exact ⟨rfl, Below.refl _ _⟩
end Go.Proofs.YtkdmdoflfaldiaaDoor.Given
