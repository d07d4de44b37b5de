/- The walk of laws.FnMaskUnion. -/
import Derived.Test.YtjabjcgomnjpcaaDoorMs
namespace Go.Proofs.YtjabjcgomnjpcaaDoor.Given
open Go.RowKit Go.Proofs.YtjabjcgomnjpcaaDoorW.PrintWords Go.Proofs.YtjabjcgomnjpcaaDoorW.PrintLast Go.Proofs.YtjabjcgomnjpcaaDoorW.PrintMore Go.Proofs.YtjabjcgomnjpcaaDoor.PM
open Go.Proofs.YtjabjcgomnjpcaaDoor.Zp
set_option linter.unusedVariables false
set_option linter.unusedSimpArgs false

theorem short_two (a b : ByteArray) (ha : a.size ≤ 2147483647) (hb : b.size ≤ 2147483647) : laws_encShort.f 4 [a, b] = some (decide (((a.size + b.size : Nat) : Int) ≤ 65536)) := by
  have h1 : wrap64 (0 + (a.size : Int)) = (a.size : Int) := by unfold wrap64; omega
  have h2 : wrap64 ((0 : Int) + 1) = 1 := by unfold wrap64; rfl
  have h4 : wrap64 ((1 : Int) + 1) = 2 := by unfold wrap64; rfl
  have h5 : wrap64 ((a.size : Int) + (b.size : Int)) = ((a.size + b.size : Nat) : Int) := w64n (by omega)
  have h3 : rdOf ByteArray.empty [a, b] 0 = a := rfl
  have h6 : rdOf ByteArray.empty [a, b] 1 = b := rfl
  unfold laws_encShort.f
  simp only [laws_encShort.l0, List.length_cons, List.length_nil, h3, h1, h2, h6, h5, h4]
  rw [if_pos (by decide), if_pos (by decide), if_pos (by decide), if_pos (by decide), if_pos (by decide), if_pos (by decide), if_neg (by decide)]
theorem tl_append (a b : ByteArray) : tl (a ++ b) = tl a ++ tl b := by
  show (a ++ b).data.toList = _
  rw [ByteArray.data_append, Array.toList_append]
  rfl
theorem ascii_l (s : ByteArray) (hs : s.size ≤ 1000000000) : ∀ (n k i : Nat), s.size - i ≤ n → n + 1 ≤ k → i ≤ s.size → laws_encASCII.l0 k s (s.size : Int) (i : Int) = some (((tl s).drop i).all fun b => decide (b.toNat < 128))
  | n, 0, i, h1, h2, h3 => by omega
  | n, k + 1, i, h1, h2, h3 => by
    have w1 : wrap64 ((i : Int) + 1) = ((i + 1 : Nat) : Int) := w64n (k := 1) (by omega)
    unfold laws_encASCII.l0
    by_cases hi : i < s.size
    · have hil : i < (tl s).length := by rw [tl_size]; exact hi
      have hb : bt s (i : Int) = ((tl s)[i].toNat : Int) := by
        unfold bt
        rw [Int.toNat_natCast, dif_pos hi]
        rfl
      rw [if_pos (by omega), if_pos (by omega), if_pos (by omega), hb, w1, List.drop_eq_getElem_cons hil, List.all_cons]
      by_cases hc : (tl s)[i].toNat < 128
      · rw [if_neg (by omega), decide_eq_true hc, Bool.true_and]
        cases n with
        | zero => omega
        | succ n => exact ascii_l s hs n k (i + 1) (by omega) (by omega) (by omega)
      · rw [if_pos (by omega), decide_eq_false hc, Bool.false_and]
    · rw [if_neg (by omega), List.drop_eq_nil_of_le (by rw [tl_size]; omega)]
      rfl
theorem ascii9 (s : ByteArray) (w : World) (hs : s.size ≤ 1000000000) : Calls Tryd.prog 9 #[.string s] w fun e w' => e = .returned (.bool ((tl s).all fun b => decide (b.toNat < 128))) ∧ Below w.heap.size w w' := by
  refine (laws_encASCII.calls (s.size + 1) s _ w (ascii_l s hs s.size (s.size + 1) 0 (by omega) (by omega) (by omega))).mono ?_
  rintro e w' ⟨rfl, n, rfl⟩
  exact ⟨rfl, below_drewN' (Below.refl _ _) n⟩
theorem short8 (a b : ByteArray) (w : World) (ha : a.size ≤ 2147483647) (hb : b.size ≤ 2147483647) : Calls Tryd.prog 8 #[.slice (some ⟨w.heap.size, 0, none⟩) 2 2] (w.alloc (.cells #[.string a, .string b] 9)) fun e w' => e = .returned (.bool (decide (((a.size + b.size : Nat) : Int) ≤ 65536))) ∧ Below w.heap.size w w' := by
  have hbw : Below w.heap.size w (w.alloc (.cells #[.string a, .string b] 9)) := (Below.refl _ w).alloc (Nat.le_refl _) _
  have hrow : Kd.C Kd.string (w.alloc (.cells #[.string a, .string b] 9)) (some ⟨w.heap.size, 0, none⟩) [a, b].length [a, b] := by
    refine ⟨rfl, by simp, fun _ => ⟨_, rfl, fun j p hj => ?_⟩⟩
    match j, hj with
    | 0, hj =>
      cases hj
      exact ⟨[.string a], rfl, rfl, fun i u hu => by
        match i, hu with
        | 0, hu => cases hu; simp [Addr.add]⟩
    | 1, hj =>
      cases hj
      exact ⟨[.string b], rfl, rfl, fun i u hu => by
        match i, hu with
        | 0, hu => cases hu; simp [Addr.add, Kd.string, Kd.scalar]⟩
  refine (laws_encShort.calls 4 (some ⟨w.heap.size, 0, none⟩) 2 [a, b] _ _ hrow (Nat.le_refl 2) (short_two a b ha hb)).mono ?_
  rintro e w' ⟨rfl, n, rfl⟩
  exact ⟨rfl, below_drewN' hbw n⟩
theorem comma_tl (a b : ByteArray) : tl (a ++ ⟨#[44]⟩ ++ b) = tl a ++ 44 :: tl b := by
  rw [tl_append, tl_append]
  show tl a ++ [44] ++ tl b = _
  simp
/-- What impl.MaskSet answers. -/
def mv (m : Int) (r : Option Nat) : Value := match r with
  | some n => .tuple #[.int .u64 (n : Int), .bool true]
  | none => .tuple #[.int .u64 m, .bool false]
theorem mset (m : Int) (s : ByteArray) (w : World) (hs : s.size ≤ 1000000) (ha : ∀ c ∈ tl s, c.toNat < 128) (hE : Ev w) :
    Calls Tryd.prog 10 #[.int .u64 m, .string s] w fun e w' => e = .returned (mv m (setV (tl s))) ∧ Below w.heap.size w w' := by
  refine (mset10 m s w hs ha hE).mono ?_
  rintro e w' ⟨rfl, h⟩
  refine ⟨?_, h⟩
  unfold mv
  cases setV (tl s) <;> rfl
set_option maxHeartbeats 4000000 in
set_option maxRecDepth 100000 in
theorem law4 (m : Int) (a b : ByteArray) (w : World) (hE : Ev w) : Calls Tryd.prog 4 #[.int .u64 m, .string a, .string b] w fun e w' => e = .returned (.bool true) ∧ Below w.heap.size w w' := by
  by_cases ha : a.size ≤ 2147483647
  · have ha1 : ((a.size : Int) > 2147483647) = False := by simp; omega
    by_cases hb : b.size ≤ 2147483647
    · have hb1 : ((b.size : Int) > 2147483647) = False := by simp; omega
      have c8 := short8 a b w ha hb
      obtain ⟨s, hs⟩ : ∃ s, decide (((a.size + b.size : Nat) : Int) ≤ 65536) = s := ⟨_, rfl⟩
      rw [hs] at c8
      cases s with
      | false =>
        clear hs ha hb
        go_enter Tryd.func4, Tryd.ntmps4
        go_wp2_with (go_at_call 8; refine c8.mono ?_; rintro e w1 ⟨rfl, h1⟩)
        go_ret
        exact ⟨rfl, h1⟩
      | true =>
        have hsz : ((a.size + b.size : Nat) : Int) ≤ 65536 := of_decide_eq_true hs
        have hsab : (a ++ b).size = a.size + b.size := ByteArray.size_append
        have l1 : ¬ (9223372036854775807 < a.size + b.size) := by omega
        have c9 := fun W => ascii9 (a ++ b) W (by omega)
        obtain ⟨q, hq⟩ : ∃ q, ((tl (a ++ b)).all fun b => decide (b.toNat < 128)) = q := ⟨_, rfl⟩
        rw [hq] at c9
        cases q with
        | false =>
          clear hs ha hb hsz hq hsab
          go_enter Tryd.func4, Tryd.ntmps4
          go_wp2_with (first | (go_at_call 8; refine c8.mono ?_; rintro e w1 ⟨rfl, h1⟩) | (go_at_call 9; refine (c9 _).mono ?_; rintro e w2 ⟨rfl, h2⟩; have k2 := h1.trans (h2.mono h1.size)))
          go_ret
          exact ⟨rfl, k2⟩
        | true =>
          have hall : ∀ c ∈ tl a ++ tl b, c.toNat < 128 := by
            rw [tl_append, List.all_eq_true] at hq
            intro c hc
            exact of_decide_eq_true (hq c hc)
          have hA : ∀ c ∈ tl a, c.toNat < 128 := fun c hc => hall c (List.mem_append_left _ hc)
          have hB : ∀ c ∈ tl b, c.toNat < 128 := fun c hc => hall c (List.mem_append_right _ hc)
          have cA := fun W h => mset m a W (by omega) hA h
          have cB := fun W h => mset m b W (by omega) hB h
          have cAB := fun W h => mset m (a ++ ⟨#[44]⟩ ++ b) W (by rw [ByteArray.size_append, ByteArray.size_append]; show a.size + 1 + b.size ≤ _; omega) (by
            rw [comma_tl]
            intro c hc
            rw [List.mem_append, List.mem_cons] at hc
            rcases hc with hc | rfl | hc
            · exact hA c hc
            · decide
            · exact hB c hc) h
          have cBA := fun W h => mset m (b ++ ⟨#[44]⟩ ++ a) W (by rw [ByteArray.size_append, ByteArray.size_append]; show b.size + 1 + a.size ≤ _; omega) (by
            rw [comma_tl]
            intro c hc
            rw [List.mem_append, List.mem_cons] at hc
            rcases hc with hc | rfl | hc
            · exact hB c hc
            · decide
            · exact hA c hc) h
          have cD := fun W h => mset m ⟨#[68, 111, 116]⟩ W (by decide) (by decide) h
          rw [comma_tl, setV_two] at cAB cBA
          rw [show tl (⟨#[68, 111, 116]⟩ : ByteArray) = [68, 111, 116] from rfl, dot_is] at cD
          have hlA := fun n (h : setV (tl a) = some n) => setV_lt h
          have hlB := fun n (h : setV (tl b) = some n) => setV_lt h
          obtain ⟨X, hX⟩ : ∃ X, a ++ ⟨#[44]⟩ ++ b = X := ⟨_, rfl⟩
          obtain ⟨Y, hY⟩ : ∃ Y, b ++ ⟨#[44]⟩ ++ a = Y := ⟨_, rfl⟩
          obtain ⟨ra, hra⟩ : ∃ r, setV (tl a) = r := ⟨_, rfl⟩
          obtain ⟨rb, hrb⟩ : ∃ r, setV (tl b) = r := ⟨_, rfl⟩
          rw [hra] at cA cAB cBA hlA
          rw [hrb] at cB cAB cBA hlB
          clear hs hq hsab hall hA hB hra hrb
          have l2 : ¬ (9223372036854775807 < a.size + 1) := by omega
          have l3 : ¬ (9223372036854775807 < b.size + 1) := by omega
          have l4 : ¬ (9223372036854775807 < a.size + 1 + b.size) := by omega
          have l5 : ¬ (9223372036854775807 < b.size + 1 + a.size) := by omega
          clear hX hY hsz ha hb
          cases ra with
          | none =>
            cases rb with
            | none =>
              simp only [Option.bind_some, Option.bind_none, Option.map_some, Option.map_none, mv] at cA cB cAB cBA cD
              clear hlA hlB
              go_enter Tryd.func4, Tryd.ntmps4
              go_wp2_with (first | (go_at_call 8; refine c8.mono ?_; rintro e w1 ⟨rfl, h1⟩) | (go_at_call 9; refine (c9 _).mono ?_; rintro e w2 ⟨rfl, h2⟩; have k2 := h1.trans (h2.mono h1.size); have e2 := hE.below k2) | (go_at_call 10; refine (cA _ e2).mono ?_; rintro e w3 ⟨rfl, h3⟩; have k3 := k2.trans (h3.mono k2.size); have e3 := e2.below h3; clear cA) | (go_at_call 10; refine (cB _ e3).mono ?_; rintro e w4 ⟨rfl, h4⟩; have k4 := k3.trans (h4.mono k3.size); have e4 := e3.below h4; clear cB) | (go_at_call 10; refine (cAB _ e4).mono ?_; rintro e w5 ⟨rfl, h5⟩; have k5 := k4.trans (h5.mono k4.size); have e5 := e4.below h5; clear cAB) | (go_at_call 10; refine (cBA _ e5).mono ?_; rintro e w6 ⟨rfl, h6⟩; have k6 := k5.trans (h6.mono k5.size); have e6 := e5.below h6; clear cBA) | (go_at_call 10; refine (cD _ e6).mono ?_; rintro e w7 ⟨rfl, h7⟩; have k7 := k6.trans (h7.mono k6.size); clear cD))
              go_ret
              exact ⟨rfl, k7⟩
            | some y =>
              simp only [Option.bind_some, Option.bind_none, Option.map_some, Option.map_none, mv] at cA cB cAB cBA cD
              clear hlA hlB
              go_enter Tryd.func4, Tryd.ntmps4
              go_wp2_with (first | (go_at_call 8; refine c8.mono ?_; rintro e w1 ⟨rfl, h1⟩) | (go_at_call 9; refine (c9 _).mono ?_; rintro e w2 ⟨rfl, h2⟩; have k2 := h1.trans (h2.mono h1.size); have e2 := hE.below k2) | (go_at_call 10; refine (cA _ e2).mono ?_; rintro e w3 ⟨rfl, h3⟩; have k3 := k2.trans (h3.mono k2.size); have e3 := e2.below h3; clear cA) | (go_at_call 10; refine (cB _ e3).mono ?_; rintro e w4 ⟨rfl, h4⟩; have k4 := k3.trans (h4.mono k3.size); have e4 := e3.below h4; clear cB) | (go_at_call 10; refine (cAB _ e4).mono ?_; rintro e w5 ⟨rfl, h5⟩; have k5 := k4.trans (h5.mono k4.size); have e5 := e4.below h5; clear cAB) | (go_at_call 10; refine (cBA _ e5).mono ?_; rintro e w6 ⟨rfl, h6⟩; have k6 := k5.trans (h6.mono k5.size); have e6 := e5.below h6; clear cBA) | (go_at_call 10; refine (cD _ e6).mono ?_; rintro e w7 ⟨rfl, h7⟩; have k7 := k6.trans (h7.mono k6.size); clear cD))
              go_ret
              exact ⟨rfl, k7⟩
          | some x =>
            cases rb with
            | none =>
              simp only [Option.bind_some, Option.bind_none, Option.map_some, Option.map_none, mv] at cA cB cAB cBA cD
              clear hlA hlB
              go_enter Tryd.func4, Tryd.ntmps4
              go_wp2_with (first | (go_at_call 8; refine c8.mono ?_; rintro e w1 ⟨rfl, h1⟩) | (go_at_call 9; refine (c9 _).mono ?_; rintro e w2 ⟨rfl, h2⟩; have k2 := h1.trans (h2.mono h1.size); have e2 := hE.below k2) | (go_at_call 10; refine (cA _ e2).mono ?_; rintro e w3 ⟨rfl, h3⟩; have k3 := k2.trans (h3.mono k2.size); have e3 := e2.below h3; clear cA) | (go_at_call 10; refine (cB _ e3).mono ?_; rintro e w4 ⟨rfl, h4⟩; have k4 := k3.trans (h4.mono k3.size); have e4 := e3.below h4; clear cB) | (go_at_call 10; refine (cAB _ e4).mono ?_; rintro e w5 ⟨rfl, h5⟩; have k5 := k4.trans (h5.mono k4.size); have e5 := e4.below h5; clear cAB) | (go_at_call 10; refine (cBA _ e5).mono ?_; rintro e w6 ⟨rfl, h6⟩; have k6 := k5.trans (h6.mono k5.size); have e6 := e5.below h6; clear cBA) | (go_at_call 10; refine (cD _ e6).mono ?_; rintro e w7 ⟨rfl, h7⟩; have k7 := k6.trans (h7.mono k6.size); clear cD))
              go_ret
              exact ⟨rfl, k7⟩
            | some y =>
              have hor := or64 x y (hlA x rfl) (hlB y rfl)
              have hcm : y ||| x = x ||| y := Nat.or_comm y x
              simp only [Option.bind_some, Option.map_some, mv, hcm] at cA cB cAB cBA cD
              obtain ⟨z, hz⟩ : ∃ z, x ||| y = z := ⟨_, rfl⟩
              rw [hz] at hor cAB cBA
              clear hlA hlB hz hcm
              go_enter Tryd.func4, Tryd.ntmps4
              go_wp2_with (first | (go_at_call 8; refine c8.mono ?_; rintro e w1 ⟨rfl, h1⟩) | (go_at_call 9; refine (c9 _).mono ?_; rintro e w2 ⟨rfl, h2⟩; have k2 := h1.trans (h2.mono h1.size); have e2 := hE.below k2) | (go_at_call 10; refine (cA _ e2).mono ?_; rintro e w3 ⟨rfl, h3⟩; have k3 := k2.trans (h3.mono k2.size); have e3 := e2.below h3; clear cA) | (go_at_call 10; refine (cB _ e3).mono ?_; rintro e w4 ⟨rfl, h4⟩; have k4 := k3.trans (h4.mono k3.size); have e4 := e3.below h4; clear cB) | (go_at_call 10; refine (cAB _ e4).mono ?_; rintro e w5 ⟨rfl, h5⟩; have k5 := k4.trans (h5.mono k4.size); have e5 := e4.below h5; clear cAB) | (go_at_call 10; refine (cBA _ e5).mono ?_; rintro e w6 ⟨rfl, h6⟩; have k6 := k5.trans (h6.mono k5.size); have e6 := e5.below h6; clear cBA) | (go_at_call 10; refine (cD _ e6).mono ?_; rintro e w7 ⟨rfl, h7⟩; have k7 := k6.trans (h7.mono k6.size); clear cD))
              go_ret
              exact ⟨rfl, k7⟩
    · have hb1 : ((b.size : Int) > 2147483647) = True := by simp; omega
      go_enter Tryd.func4, Tryd.ntmps4
      go_wp2
      go_ret
      exact ⟨rfl, Below.refl _ w⟩
  · have ha1 : ((a.size : Int) > 2147483647) = True := by simp; omega
    go_enter Tryd.func4, Tryd.ntmps4
    go_wp2
    go_ret
    exact ⟨rfl, Below.refl _ w⟩
end Go.Proofs.YtjabjcgomnjpcaaDoor.Given
