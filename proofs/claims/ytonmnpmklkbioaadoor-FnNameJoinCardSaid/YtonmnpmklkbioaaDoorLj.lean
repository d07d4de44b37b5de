/- The walk of laws.FnNameJoin. -/
import Derived.Test.YtonmnpmklkbioaaDoorJo
import Derived.Test.YtonmnpmklkbioaaDoorLe
namespace Go.Proofs.YtonmnpmklkbioaaDoor.Given
open Go.RowKit Go.Proofs.YtonmnpmklkbioaaDoorW.PrintWords Go.Proofs.YtonmnpmklkbioaaDoorW.PrintLast Go.Proofs.YtonmnpmklkbioaaDoorW.PrintMore Go.Proofs.YtonmnpmklkbioaaDoor.PN
open Go.Proofs.YtonmnpmklkbioaaDoor.Pt (Ch Tk flat chars)
open Go.Proofs.YtonmnpmklkbioaaDoor.Sy (tl strB tl_size strB_tl tl_strB tkm hasB)
set_option linter.unusedVariables false
set_option linter.unusedSimpArgs false

def units (s : ByteArray) : Nat := (chars (tl s)).length
/-- spec.Units, as far as its length goes. -/
theorem units37 (s : ByteArray) (w : World) (hs : s.size ≤ 1000000000) : Calls Tryd.prog 37 #[.string s] w fun e w' => ∃ A c, e = .returned (.slice A (units s) c) ∧ Below w.heap.size w w' := by
  refine (spec_Units.calls s ((chars (tl s)).map un) w (by unfold spec_Units.f; rw [if_pos (by omega)])).mono ?_
  rintro e w' ⟨v, rfl, hR, hb⟩
  obtain ⟨A, c, rfl, _, _⟩ := Kd.R_reads hR
  exact ⟨A, c, by rw [List.length_map]; rfl, hb⟩
theorem units_le (s : ByteArray) : units s ≤ s.size := by
  unfold units
  rw [← tl_size]
  exact chars_len _
theorem w64a {p k : Nat} (h : p + k ≤ 9223372036854775807) : wrap64 ((p : Int) + (k : Int)) = ((p + k : Nat) : Int) := w64n h
theorem le_of_two {p k n : Nat} (h : p + k ≤ n) : p ≤ n ∧ k ≤ n := by omega
theorem cat_ok {p k : Nat} (h : p + k ≤ 1000000000) : ¬ 9223372036854775807 < p + k := by omega
theorem sum_ok {p k : Nat} (h : p + k ≤ 1000000000) : wrap64 ((p : Int) + (k : Int)) = ((p + k : Nat) : Int) := w64n (by omega)
set_option maxHeartbeats 1000000 in
theorem whole18 (a b : ByteArray) (w : World) (hs : a.size + b.size ≤ 1000000000) : Calls Tryd.prog 18 #[.string a, .string b] w fun e w' => e = .returned (.bool (((units (a ++ b) : Nat) : Int) == ((units a + units b : Nat) : Int))) ∧ Below w.heap.size w w' := by
  have hc : ¬ 9223372036854775807 < a.size + b.size := cat_ok hs
  have cab := fun W => units37 (a ++ b) W (by rw [ByteArray.size_append]; exact hs)
  have ca := fun W => units37 a W (le_of_two hs).1
  have cb := fun W => units37 b W (le_of_two hs).2
  have ua := units_le a
  have ub := units_le b
  have hu : units a + units b ≤ 1000000000 := Nat.le_trans (Nat.add_le_add ua ub) hs
  obtain ⟨na, hna⟩ : ∃ n, units a = n := ⟨_, rfl⟩
  obtain ⟨nb, hnb⟩ : ∃ n, units b = n := ⟨_, rfl⟩
  obtain ⟨nab, hnab⟩ : ∃ n, units (a ++ b) = n := ⟨_, rfl⟩
  rw [hna, hnb] at hu
  have hw := sum_ok hu
  rw [hna] at ca
  rw [hnb] at cb
  rw [hnab] at cab
  rw [hna, hnb, hnab]
  clear hna hnb hnab ua ub hs hu
  go_enter Tryd.func18, Tryd.ntmps18
  go_wp2_with (first | (go_at_call 37; (with_reducible refine (cab _).mono ?_); rintro e w1 ⟨A1, c1, rfl, hb1⟩) | (go_at_call 37; (with_reducible refine (ca _).mono ?_); rintro e w2 ⟨A2, c2, rfl, hb2⟩) | (go_at_call 37; (with_reducible refine (cb _).mono ?_); rintro e w3 ⟨A3, c3, rfl, hb3⟩))
  go_ret
  exact ⟨rfl, (hb1.trans (hb2.mono hb1.size)).trans (hb3.mono (Nat.le_trans hb1.size hb2.size))⟩

theorem short_two (a b : ByteArray) (ha : a.size ≤ 2147483647) (hb : b.size ≤ 2147483647) : laws_encShort.f 4 [a, b] = some (decide (((a.size + b.size : Nat) : Int) ≤ 65536)) := by
  have h1 : wrap64 (0 + (a.size : Int)) = (a.size : Int) := by unfold wrap64; omega
  have h2 : wrap64 ((0 : Int) + 1) = 1 := by unfold wrap64; rfl
  have h4 : wrap64 ((1 : Int) + 1) = 2 := by unfold wrap64; rfl
  have h5 : wrap64 ((a.size : Int) + (b.size : Int)) = ((a.size + b.size : Nat) : Int) := w64a (by omega)
  have h3 : rdOf ByteArray.empty [a, b] 0 = a := rfl
  have h6 : rdOf ByteArray.empty [a, b] 1 = b := rfl
  unfold laws_encShort.f
  simp only [laws_encShort.l0, List.length_cons, List.length_nil, h3, h1, h2, h6, h5, h4]
  rw [if_pos (by decide), if_pos (by decide), if_pos (by decide), if_pos (by decide), if_pos (by decide), if_pos (by decide), if_neg (by decide)]
theorem wrap_x (a : ByteArray) : (⟨#[120]⟩ : ByteArray) ++ a ++ ⟨#[120]⟩ = xs (tl a) := by
  apply ByteArray.ext
  rw [ByteArray.data_append, ByteArray.data_append]
  show _ = (120 :: (a.data.toList ++ [120])).toArray
  apply Array.toList_inj.1
  simp
theorem wrap_xx (a b : ByteArray) : (⟨#[120]⟩ : ByteArray) ++ a ++ b ++ ⟨#[120]⟩ = xs (tl a ++ tl b) := by
  apply ByteArray.ext
  rw [ByteArray.data_append, ByteArray.data_append, ByteArray.data_append]
  show _ = (120 :: (a.data.toList ++ b.data.toList ++ [120])).toArray
  apply Array.toList_inj.1
  simp
theorem tl_append (a b : ByteArray) : tl (a ++ b) = tl a ++ tl b := by
  show (a ++ b).data.toList = _
  rw [ByteArray.data_append, Array.toList_append]
set_option maxHeartbeats 4000000 in
set_option maxRecDepth 100000 in
theorem law5 (m : Int) (a b : ByteArray) (w : World) (hT : Tabs w) : Calls Tryd.prog 5 #[.int .u64 m, .string a, .string b] w fun e w' => e = .returned (.bool true) ∧ Below w.heap.size w w' := by
  by_cases ha : a.size ≤ 2147483647
  · have ha1 : ((a.size : Int) > 2147483647) = False := by simp; omega
    by_cases hb : b.size ≤ 2147483647
    · have hb1 : ((b.size : Int) > 2147483647) = False := by simp; omega
      have hbw : ∀ os, Below w.heap.size w (w.alloc os) := fun os => (Below.refl _ w).alloc (Nat.le_refl _) _
      have hrow : Kd.C Kd.string (w.alloc (.cells #[.string a, .string b] 9)) (some ⟨w.heap.size, 0, none⟩) [a, b].length [a, b] := by
        refine ⟨rfl, by simp, fun _ => ⟨_, rfl, fun j p hj => ?_⟩⟩
        match j, hj with
        | 0, hj =>
          cases hj
          exact ⟨[.string a], rfl, rfl, fun i u hu => by
            match i, hu with
            | 0, hu => cases hu; simp [Addr.add]⟩
        | 1, hj =>
          cases hj
          exact ⟨[.string b], rfl, rfl, fun i u hu => by
            match i, hu with
            | 0, hu => cases hu; simp [Addr.add, Kd.string, Kd.scalar]⟩
      have hsh := short_two a b ha hb
      obtain ⟨s, hs⟩ : ∃ s, decide (((a.size + b.size : Nat) : Int) ≤ 65536) = s := ⟨_, rfl⟩
      rw [hs] at hsh
      have c16 := laws_encShort.calls 4 (some ⟨w.heap.size, 0, none⟩) 2 [a, b] s _ hrow (Nat.le_refl 2) hsh
      have hT1 : ∀ os n, Tabs ((w.alloc os).drewN n) := fun os n => hT.below (below_drewN' (hbw os) n)
      cases s with
      | false =>
        clear hsh hrow hs ha hb
        go_enter Tryd.func5, Tryd.ntmps5
        go_wp2_with (go_at_call 16; refine c16.mono ?_; rintro e w1 ⟨rfl, ⟨n, rfl⟩⟩)
        go_ret
        exact ⟨rfl, below_drewN' (hbw _) _⟩
      | true =>
        have hsz : ((a.size + b.size : Nat) : Int) ≤ 65536 := of_decide_eq_true hs
        have c18 := fun W => whole18 a b W (by omega)
        obtain ⟨q, hq⟩ : ∃ q, (((units (a ++ b) : Nat) : Int) == ((units a + units b : Nat) : Int)) = q := ⟨_, rfl⟩
        rw [hq] at c18
        cases q with
        | false =>
          clear hsh hrow hs ha hb hq hsz
          go_enter Tryd.func5, Tryd.ntmps5
          go_wp2_with (first | (go_at_call 16; refine c16.mono ?_; rintro e w1 ⟨rfl, ⟨n, rfl⟩⟩) | (go_at_call 18; refine (c18 _).mono ?_; rintro e w2 ⟨rfl, hb2⟩))
          go_ret
          have hb1 := below_drewN' (hbw (.cells #[.string a, .string b] 9)) n
          exact ⟨rfl, hb1.trans (hb2.mono hb1.size)⟩
        | true =>
          have hun : units (a ++ b) = units a + units b := by
            rw [beq_iff_eq] at hq
            exact Int.ofNat.inj hq
          have hmid := mid_two m (a := tl a) (b := tl b) (by rw [← tl_append]; exact hun)
          have cA := fun W h => enc15 m (xs (tl a)) W (by rw [xs_size, tl_size]; omega) h
          have cB := fun W h => enc15 m (xs (tl b)) W (by rw [xs_size, tl_size]; omega) h
          have cC := fun W h => enc15 m (xs (tl a ++ tl b)) W (by rw [xs_size, List.length_append, tl_size, tl_size]; omega) h
          rw [enc_mid] at cA cB cC
          rw [hmid] at cC
          have lA := mid_len m (tl a)
          have lB := mid_len m (tl b)
          rw [tl_size] at lA lB
          obtain ⟨E, hE⟩ : ∃ E, midE m (tl a) = E := ⟨_, rfl⟩
          obtain ⟨F, hF⟩ : ∃ F, midE m (tl b) = F := ⟨_, rfl⟩
          rw [hE] at cA cC lA
          rw [hF] at cB cC lB
          rw [← wrap_x] at cA cB
          rw [← wrap_xx] at cC
          have s1 : ¬ 9223372036854775807 < 1 + a.size := by omega
          have s2 : ¬ 9223372036854775807 < 1 + a.size + 1 := by omega
          have s3 : ¬ 9223372036854775807 < 1 + b.size := by omega
          have s4 : ¬ 9223372036854775807 < 1 + b.size + 1 := by omega
          have s5 : ¬ 9223372036854775807 < 1 + a.size + b.size := by omega
          have s6 : ¬ 9223372036854775807 < 1 + a.size + b.size + 1 := by omega
          have z1 := xs_size E
          have z2 := xs_size F
          have k1 := cut_last E
          have k2 := cut_first F
          have hend : xs (E ++ F) = strB (120 :: E) ++ strB (F ++ [120]) := by
            rw [← strB_append]
            show strB _ = strB _
            congr 1
            simp
          obtain ⟨X, hX⟩ : ∃ X, xs E = X := ⟨_, rfl⟩
          obtain ⟨Y, hY⟩ : ∃ Y, xs F = Y := ⟨_, rfl⟩
          obtain ⟨Z, hZ⟩ : ∃ Z, xs (E ++ F) = Z := ⟨_, rfl⟩
          rw [hX] at cA z1 k1
          rw [hY] at cB z2 k2
          rw [hZ] at cC hend
          obtain ⟨U1, hU1⟩ : ∃ U1, strB (120 :: E) = U1 := ⟨_, rfl⟩
          obtain ⟨U2, hU2⟩ : ∃ U2, strB (F ++ [120]) = U2 := ⟨_, rfl⟩
          have u1 : U1.size = E.length + 1 := by rw [← hU1]; show (strB _).size = _; rw [Sy.size_strB]; rfl
          have u2 : U2.size = F.length + 1 := by rw [← hU2]; show (strB _).size = _; rw [Sy.size_strB]; simp
          rw [hU1] at k1 hend
          rw [hU2] at k2 hend
          have heq : (Z.toList == (U1 ++ U2).toList) = true := by rw [hend]; exact beq_self_eq_true _
          have s7 : ¬ 9223372036854775807 < U1.size + U2.size := by omega
          have b0 : (0 : Int) ≤ ((E.length + 1 : Nat) : Int) := by omega
          have b1 : ((E.length + 1 : Nat) : Int) ≤ (X.size : Int) := by omega
          have b2 : (1 : Int) ≤ (Y.size : Int) := by omega
          have x1 : ((X.size : Int) < 2) = False := by simp; omega
          have y1 : ((Y.size : Int) < 2) = False := by simp; omega
          have xw : wrap64 ((X.size : Int) - 1) = ((E.length + 1 : Nat) : Int) := by rw [z1]; exact w64m (n := E.length + 1) (by omega)
          obtain ⟨n1, hn1⟩ : ∃ n1, E.length + 1 = n1 := ⟨_, rfl⟩
          rw [hn1] at xw b0 b1 k1
          clear u1 u2 z1 z2 hU1 hU2 hend hn1 hsh hrow hs hq hsz hun hmid hE hF hX hY hZ ha hb lA lB
          go_enter Tryd.func5, Tryd.ntmps5
          go_upto_region 8 with (first | (go_at_call 16; refine c16.mono ?_; rintro e w1 ⟨rfl, ⟨n, rfl⟩⟩) | (go_at_call 18; refine (c18 _).mono ?_; rintro e w2 ⟨rfl, hb2⟩; have hT2 := (hT1 _ _).below hb2) | (go_at_call 15; refine (cA _ hT2).mono ?_; rintro e w3 ⟨rfl, hb3⟩; have hT3 := hT2.below hb3) | (go_at_call 15; refine (cB _ hT3).mono ?_; rintro e w4 ⟨rfl, hb4⟩; have hT4 := hT3.below hb4) | (go_at_call 15; refine (cC _ hT4).mono ?_; rintro e w5 ⟨rfl, hb5⟩))
          go_region
          all_goals go_wp2
          all_goals go_ret
          all_goals (have hb1 := below_drewN' (hbw (.cells #[.string a, .string b] 9)) n)
          all_goals exact ⟨rfl, below_drewN' (((((hb1.trans (hb2.mono hb1.size)).trans (hb3.mono (Nat.le_trans hb1.size hb2.size))).trans (hb4.mono (Nat.le_trans (Nat.le_trans hb1.size hb2.size) hb3.size))).trans (hb5.mono (Nat.le_trans (Nat.le_trans (Nat.le_trans hb1.size hb2.size) hb3.size) hb4.size)))) 1⟩
    · have hb1 : ((b.size : Int) > 2147483647) = True := by simp; omega
      go_enter Tryd.func5, Tryd.ntmps5
      go_wp2
      go_ret
      exact ⟨rfl, Below.refl _ w⟩
  · have ha1 : ((a.size : Int) > 2147483647) = True := by simp; omega
    go_enter Tryd.func5, Tryd.ntmps5
    go_wp2
    go_ret
    exact ⟨rfl, Below.refl _ w⟩
end Go.Proofs.YtonmnpmklkbioaaDoor.Given
