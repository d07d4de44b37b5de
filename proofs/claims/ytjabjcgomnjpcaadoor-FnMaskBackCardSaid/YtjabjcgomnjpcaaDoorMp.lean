/- strconv.ParseUint at base 0: the walk. -/
import Derived.Test.YtjabjcgomnjpcaaDoorMp0
namespace Go.Proofs.YtjabjcgomnjpcaaDoor.Given
open Go.RowKit Go.Proofs.YtjabjcgomnjpcaaDoorW.PrintWords Go.Proofs.YtjabjcgomnjpcaaDoorW.PrintLast Go.Proofs.YtjabjcgomnjpcaaDoorW.PrintMore Go.Proofs.YtjabjcgomnjpcaaDoor.PM
open Go.Proofs.YtjabjcgomnjpcaaDoor.Zp
set_option linter.unusedVariables false
set_option linter.unusedSimpArgs false

set_option maxHeartbeats 8000000 in
set_option maxRecDepth 100000 in
theorem parse35 (s : ByteArray) (w : World) (hs : s.size ≤ 1000000) :
    Calls Tryd.prog 35 #[.string s, .int .i64 0, .int .i64 0] w fun e w' => ∃ v, e = .returned v ∧ ans35 (numE (tl s)) v ∧ Below w.heap.size w w' := by
  by_cases h0 : s.size = 0
  · have hse : s = ⟨#[]⟩ := by
      obtain ⟨⟨l⟩⟩ := s
      have : l = [] := List.eq_nil_of_length_eq_zero h0
      rw [this]
    subst hse
    have hn : numE (tl ⟨#[]⟩) = none := rfl
    rw [hn]
    clear h0 hn
    go_enter Tryd.func35, Tryd.ntmps35
    go_wp2
    go_ret2
    exact ⟨_, rfl, ⟨_, 2, .inr rfl, rfl⟩, Below.refl _ _⟩
  · have hne : (s.toList == []) = false := by
      rw [tl_eq, beq_eq_false_iff_ne]
      intro e
      have := congrArg List.length e
      rw [tl_size] at this
      exact h0 this
    have hnr : Hid (numE (tl s) = match numR (bas (tl s)).1 (bas (tl s)).2 0 false with
      | none => none
      | some (n, us) => if us = true ∧ uok (strB (tl s)) = false then none else some n) := Lib.hid (by
        unfold numE
        rw [if_neg (by rw [tl_eq] at hne; simpa using hne)]
        rfl)
    obtain ⟨R, hR⟩ : ∃ R, numE (tl s) = R := ⟨_, rfl⟩
    rw [hR] at hnr ⊢
    clear hR
    obtain ⟨B, hB⟩ : ∃ B, (bas (tl s)).1 = B := ⟨_, rfl⟩
    obtain ⟨T, hT⟩ : ∃ T, (bas (tl s)).2 = T := ⟨_, rfl⟩
    have hbb := bas_b (tl s)
    have hbl := bas_len (tl s)
    rw [hB] at hnr hbb
    rw [hT] at hnr hbl
    have hBT : Hid (bas (tl s) = (B, T)) := Lib.hid (by rw [← hB, ← hT])
    have hbb2 : Hid (B = 2 ∨ B = 8 ∨ B = 10 ∨ B = 16) := hbb
    have hbl2 : Hid (T.length ≤ 1000000) := Lib.hid (by rw [tl_size] at hbl; omega)
    have hs2 : Hid (s.size ≤ 1000000) := hs
    clear hB hT hbb hbl
    go_enter Tryd.func35, Tryd.ntmps35
    go_upto_block 0 with fail
    go_cut [0, 1] (fun v0 v1 wc => v0 = .string (strB T) ∧ v1 = .int .i64 (B : Int) ∧ wc = w)
    case first =>
      have p0 : 0 < s.size := by omega
      have p0i : (0 : Int) < (s.size : Int) := by omega
      have hl0 : 0 < (tl s).length := by rw [tl_size]; exact p0
      have hg0 : s[0]'p0 = (tl s)[0] := rfl
      have hh0 : (tl s).head? = some (tl s)[0] := by rw [List.head?_eq_getElem?, List.getElem?_eq_getElem hl0]
      have e1 := extract_drop s 1
      have e2 := extract_drop s 2
      clear hnr hbb2 hbl2 hs hs2
      by_cases c48 : (tl s)[0] = 48
      · have hb0 : (((s[0]'p0).toNat : Int) == 48) = true := by rw [hg0, c48]; rfl
        have hbas : bas (tl s) = if 3 ≤ (tl s).length ∧ (((tl s).getD 1 0).toNat ||| 32) = 98 then (2, (tl s).drop 2)
            else if 3 ≤ (tl s).length ∧ (((tl s).getD 1 0).toNat ||| 32) = 111 then (8, (tl s).drop 2)
            else if 3 ≤ (tl s).length ∧ (((tl s).getD 1 0).toNat ||| 32) = 120 then (16, (tl s).drop 2)
            else (8, (tl s).drop 1) := by
          unfold bas
          rw [hh0, c48, if_pos rfl]
        rw [hBT.out] at hbas
        by_cases h3 : 3 ≤ s.size
        · have p1 : 1 < s.size := by omega
          have p1i : (1 : Int) < (s.size : Int) := by omega
          have p2i : (2 : Int) ≤ (s.size : Int) := by omega
          have k3 : (3 : Int) ≤ (s.size : Int) := by omega
          have p1j : (1 : Int) ≤ (s.size : Int) := by omega
          have hl1 : 1 < (tl s).length := by rw [tl_size]; exact p1
          have hg1 : s[1]'p1 = (tl s).getD 1 0 := by
            have : (tl s).getD 1 0 = (tl s)[1] := by rw [List.getD, List.getElem?_eq_getElem hl1]; rfl
            rw [this]; rfl
          have cL := fun W => lower51 (s[1]'p1).toNat (s[1]'p1).toNat_lt W
          rw [← hg1] at hbas
          obtain ⟨q, hq⟩ : ∃ q : Nat, ((s[1]'p1).toNat ||| 32) = q := ⟨_, rfl⟩
          rw [hq] at hbas cL
          have h3' : 3 ≤ (tl s).length := by rw [tl_size]; exact h3
          clear hq hg1 hl1 hh0 h3 hg0 c48 hBT
          by_cases q98 : q = 98
          · rw [if_pos ⟨h3', q98⟩] at hbas
            obtain ⟨rfl, rfl⟩ := Prod.mk.inj hbas
            subst q98
            clear hbas h3'
            go_wp2_with (go_at_call 51; refine (cL _).mono ?_; rintro e w1 ⟨rfl, rfl⟩)
            go_meet
            case rel => exact ⟨by rw [← e2], rfl, rfl⟩
          · rw [if_neg (fun h => q98 h.2)] at hbas
            have q98' : ((q : Int) == 98) = false := by rw [beq_eq_false_iff_ne]; omega
            by_cases q111 : q = 111
            · rw [if_pos ⟨h3', q111⟩] at hbas
              obtain ⟨rfl, rfl⟩ := Prod.mk.inj hbas
              subst q111
              clear hbas h3' q98
              go_wp2_with (go_at_call 51; refine (cL _).mono ?_; rintro e w1 ⟨rfl, rfl⟩)
              go_meet
              case rel => exact ⟨by rw [← e2], rfl, rfl⟩
            · rw [if_neg (fun h => q111 h.2)] at hbas
              have q111' : ((q : Int) == 111) = false := by rw [beq_eq_false_iff_ne]; omega
              by_cases q120 : q = 120
              · rw [if_pos ⟨h3', q120⟩] at hbas
                obtain ⟨rfl, rfl⟩ := Prod.mk.inj hbas
                subst q120
                clear hbas h3' q98 q111
                go_wp2_with (go_at_call 51; refine (cL _).mono ?_; rintro e w1 ⟨rfl, rfl⟩)
                go_meet
                case rel => exact ⟨by rw [← e2], rfl, rfl⟩
              · rw [if_neg (fun h => q120 h.2)] at hbas
                have q120' : ((q : Int) == 120) = false := by rw [beq_eq_false_iff_ne]; omega
                obtain ⟨rfl, rfl⟩ := Prod.mk.inj hbas
                clear hbas h3' q98 q111 q120
                go_wp2_with (go_at_call 51; refine (cL _).mono ?_; rintro e w1 ⟨rfl, rfl⟩)
                go_meet
                case rel => exact ⟨by rw [List.drop_one], rfl, rfl⟩
        · have k3 : ((3 : Int) ≤ (s.size : Int)) = False := by simp; omega
          have p1j : (1 : Int) ≤ (s.size : Int) := by omega
          have h3' : ¬ 3 ≤ (tl s).length := by rw [tl_size]; exact h3
          rw [if_neg (fun h => h3' h.1), if_neg (fun h => h3' h.1), if_neg (fun h => h3' h.1)] at hbas
          obtain ⟨rfl, rfl⟩ := Prod.mk.inj hbas
          clear hbas h3' h3 hh0 hg0 c48 hBT
          go_wp2
          go_meet
          case rel => exact ⟨by rw [List.drop_one], rfl, rfl⟩
      · have hb0 : (((s[0]'p0).toNat : Int) == 48) = false := by
          rw [hg0, beq_eq_false_iff_ne]
          intro e
          apply c48
          have : ((tl s)[0]).toNat = 48 := by omega
          exact UInt8.toNat_inj.1 this
        have hbas : bas (tl s) = (10, tl s) := by
          unfold bas
          rw [hh0, if_neg (fun e => c48 (Option.some.inj e))]
        rw [hBT.out] at hbas
        obtain ⟨rfl, rfl⟩ := Prod.mk.inj hbas
        have hss := strB_tl s
        clear hbas hh0 hg0 c48 hBT
        go_wp2
        go_meet
        case rel => exact ⟨by rw [hss], rfl, rfl⟩
    case rest =>
      obtain ⟨rfl, rfl, hwc⟩ := hcut
      rw [hwc]
      clear hwc hne hBT h0 hs
      have hcv := Lib.run_convert_string_bytes (P := Tryd.prog) w 9 54 5 (strB T) Tryd.underlying9 Tryd.underlying54 Tryd.underlying5
      have hb : Below w.heap.size w (Lib.bytesWorld w 5 (strB T)) := ⟨rfl, rfl, rfl, by rw [Lib.bytesWorld_size]; omega, fun k hk => Lib.bytesWorld_at_old w 5 _ k hk⟩
      have hcell : ∀ i, (h : i < T.length) → (Lib.bytesWorld w 5 (strB T)).cell? ⟨w.heap.size, i, none⟩ = some (.int .u8 (T[i].toNat : Int)) := by
        intro i h
        have := Lib.bytesWorld_cell w 5 (strB T) i (show i < (strB T).size by rw [size_strB]; exact h)
        have hg : (strB T).data.toList.getD i 0 = T[i] := by
          show T.toArray.toList.getD i 0 = _
          rw [List.toList_toArray, List.getD, List.getElem?_eq_getElem h]
          rfl
        rw [this, hg]
      have hsz : (strB T).size = T.length := size_strB T
      obtain ⟨S, hS⟩ : ∃ S, strB T = S := ⟨_, rfl⟩
      rw [hS] at hcv hb hcell hsz
      rw [hS]
      obtain ⟨W, hW⟩ : ∃ W, Lib.bytesWorld w 5 S = W := ⟨_, rfl⟩
      obtain ⟨g, hg⟩ : ∃ g, grownCap w S.size 0 5 = g := ⟨_, rfl⟩
      rw [hW, hg, hsz] at hcv
      rw [hW] at hcell hb
      have hcell2 : Hid (∀ i, (h : i < T.length) → W.cell? ⟨w.heap.size, i, none⟩ = some (.int .u8 (T[i].toNat : Int))) := hcell
      have hb2 : Hid (Below w.heap.size w W) := hb
      clear hS hW hg hsz hcell hb
      obtain ⟨n, hn⟩ : ∃ n, T.length = n := ⟨_, rfl⟩
      have hn2 : Hid (T.length = n) := hn
      rw [hn] at hcv
      clear hn
      rcases hbb2.out with rfl | rfl | rfl | rfl
      · have hb2' : (((2 : Nat) : Int)) = 2 := rfl
        rw [hb2']
        clear hb2'
        go_wp2
        have hmx : IntKind.u64.wrap (IntKind.u64.wrap 18446744073709551616 - 1) = 18446744073709551615 := by decide
        rw [hmx]
        clear hmx
        go_loopg [12, 13, 101] n (fun gf s12 s13 s101 wx => wx = W ∧ ∃ (us : Bool) (i N : Nat), s12 = .bool us ∧ s13 = .int .u64 (N : Int) ∧ s101 = .int .i64 (i : Int) ∧ Hid (i ≤ n ∧ n ≤ i + gf ∧ N ≤ 18446744073709551615 ∧ numR 2 T 0 false = numR 2 (T.drop i) N us))
        case atStart => exact ⟨rfl, false, 0, 0, rfl, rfl, rfl, Lib.hid ⟨by omega, by omega, by omega, rfl⟩⟩
        case round =>
          obtain ⟨hwr, us, i, N, rfl, rfl, rfl, hst⟩ := hrel
          rw [hwr]
          clear hwr
          by_cases hin : i = n
          · subst hin
            have hR3 : R = if us = true ∧ uok s = false then none else some N := by
              obtain ⟨_, _, _, h4⟩ := hst.out
              have h5 := hnr.out
              have h6 : T.drop i = [] := List.drop_eq_nil_of_le (by rw [hn2.out]; exact Nat.le_refl _)
              rw [h4, h6, strB_tl] at h5
              exact h5
            have hs3 := hs2.out
            have c52 := fun w => under52 s w (by omega)
            clear hst hnr hcell2 hn2 hs2 hs3
            cases us with
            | false =>
              rw [if_neg (fun h => by cases h.1)] at hR3
              clear c52
              go_wp2
              all_goals go_ret2
              exact ⟨_, rfl, by rw [hR3]; exact rfl, hb2.out⟩
            | true =>
              obtain ⟨uo, huo⟩ : ∃ uo, uok s = uo := ⟨_, rfl⟩
              rw [huo] at c52 hR3
              clear huo
              cases uo with
              | false =>
                rw [if_pos ⟨rfl, rfl⟩] at hR3
                go_wp2_with (go_at_call 52; refine (c52 _).mono ?_; rintro e w1 ⟨rfl, hbl3⟩)
                all_goals go_ret2
                exact ⟨_, rfl, by rw [hR3]; exact ⟨_, 2, .inr rfl, rfl⟩, below_trans' hb2.out hbl3⟩
              | true =>
                rw [if_neg (fun h => by cases h.2)] at hR3
                go_wp2_with (go_at_call 52; refine (c52 _).mono ?_; rintro e w1 ⟨rfl, hbl3⟩)
                all_goals go_ret2
                exact ⟨_, rfl, by rw [hR3]; exact rfl, below_trans' hb2.out hbl3⟩
          · obtain ⟨hi1, hi3, hN, h4⟩ := hst.out
            have hi4 : i < n := by omega
            have hiT : i < T.length := by rw [hn2.out]; exact hi4
            obtain ⟨g', rfl⟩ : ∃ g', gk = g' + 1 := ⟨gk - 1, by omega⟩
            have kc := hcell2.out i hiT
            rw [List.drop_eq_getElem_cons hiT] at h4
            obtain ⟨c, hc⟩ : ∃ c, T[i] = c := ⟨_, rfl⟩
            rw [hc] at kc h4
            have hst3 := fun (us' : Bool) (N' : Nat) (h : numR 2 T 0 false = numR 2 (T.drop (i + 1)) N' us') (h2 : N' ≤ 18446744073709551615) => Lib.hid (show i + 1 ≤ n ∧ n ≤ i + 1 + g' ∧ N' ≤ 18446744073709551615 ∧ numR 2 T 0 false = numR 2 (T.drop (i + 1)) N' us' from ⟨by omega, by omega, h2, h⟩)
            have hno := fun (h : numR 2 T 0 false = none) => show R = none by have h5 := hnr.out; rw [h] at h5; exact h5
            have hi4z : (i : Int) < (n : Int) := by omega
            have hiz : (0 : Int) ≤ (i : Int) := by omega
            have hib : (i : Int) ≤ 1000000 := by have := hbl2.out; rw [hn2.out] at this; omega
            clear hst hc hcell2 hin hi1 hi3 hnr hs2 hbl2 hn2 hiT hi4
            by_cases h95 : c = 95
            · have hst2 := hst3 true N (by rw [h4, numR_cons, if_pos h95]) hN
              subst h95
              have kc2 : W.cell? ⟨w.heap.size, i, none⟩ = some (.int .u8 95) := kc
              clear kc h4 hst3 hno hN
              go_wp2
              go_roundg g'
              case measure => exact Nat.lt_succ_self _
              case rel => exact ⟨rfl, true, i + 1, N, rfl, rfl, rfl, hst2⟩
            · have hcl := c.toNat_lt
              have hz95 : c.toNat ≠ 95 := fun e => h95 (UInt8.toNat_inj.1 e)
              rw [numR_cons, if_neg h95] at h4
              obtain ⟨C, hC⟩ : ∃ C, c.toNat = C := ⟨_, rfl⟩
              rw [hC] at kc h4 hcl hz95
              clear h95 hC
              by_cases hd : 48 ≤ C ∧ C ≤ 57
              · have hx : dg C = some (C - 48) := by unfold dg; rw [if_pos hd]
                rw [hx] at h4
                dsimp only at h4
                obtain ⟨z, hz⟩ : ∃ z : Int, (C : Int) = z := ⟨_, rfl⟩
                rw [hz] at kc
                have z1 : 48 ≤ z := by omega
                have z2 : z ≤ 57 := by omega
                by_cases hdb : C - 48 ≥ 2
                · have hR2 := hno (by rw [h4, if_pos hdb])
                  have hdb' : (2 : Int) ≤ z - 48 := by omega
                  clear h4 hno hst3 hdb hx hd hz hcl hz95 hN
                  go_wp2
                  all_goals go_ret2
                  all_goals exact ⟨_, rfl, by first | (rw [hR2]; exact ⟨_, 2, .inr rfl, rfl⟩) | exact ⟨_, 2, .inr rfl, rfl⟩, hb2.out⟩
                · rw [if_neg hdb] at h4
                  have hdb' : z - 48 < 2 := by omega
                  by_cases hcu : N ≥ 18446744073709551615 / 2 + 1
                  · have hR2 := hno (by rw [h4, if_pos hcu])
                    have hcu' : (9223372036854775808 : Int) ≤ (N : Int) := by omega
                    clear h4 hno hst3 hdb hcu hx hd hz hcl hz95 hN
                    go_wp2
                    all_goals go_ret2
                    all_goals exact ⟨_, rfl, by first | (rw [hR2]; exact ⟨_, 1, .inl rfl, rfl⟩) | exact ⟨_, 1, .inl rfl, rfl⟩, hb2.out⟩
                  · rw [if_neg hcu] at h4
                    have hcu' : (N : Int) < 9223372036854775808 := by omega
                    have hN0 : (0 : Int) ≤ (N : Int) := by omega
                    have hval : Hid (((N * 2 + (C - 48) : Nat) : Int) = (N : Int) * 2 + (z - 48)) := Lib.hid (by omega)
                    by_cases hov : N * 2 + (C - 48) > 18446744073709551615
                    · have hR2 := hno (by rw [h4, if_pos hov])
                      have hov' : 18446744073709551615 < (N : Int) * 2 + (z - 48) := by omega
                      clear h4 hno hst3 hdb hcu hx hd hz hcl hz95 hN hov hval
                      obtain ⟨M, hM⟩ : ∃ M : Int, (N : Int) = M := ⟨_, rfl⟩
                      rw [hM] at hcu' hov' hN0 ⊢
                      clear hM
                      have hwr : IntKind.u64.wrap (M * 2 + (z - 48)) = M * 2 + (z - 48) - 18446744073709551616 := u64_over hov' (by omega)
                      go_wp2
                      all_goals go_ret2
                      all_goals exact ⟨_, rfl, by first | (rw [hR2]; exact ⟨_, 1, .inl rfl, rfl⟩) | exact ⟨_, 1, .inl rfl, rfl⟩, hb2.out⟩
                    · have hst2 := hst3 us (N * 2 + (C - 48)) (by rw [h4, if_neg hov]) (by omega)
                      have hov' : (N : Int) * 2 + (z - 48) ≤ 18446744073709551615 := by omega
                      obtain ⟨V, hV⟩ : ∃ V, N * 2 + (C - 48) = V := ⟨_, rfl⟩
                      rw [hV] at hst2 hval
                      clear h4 hno hst3 hdb hcu hx hd hz hcl hz95 hN hov hV
                      obtain ⟨M, hM⟩ : ∃ M : Int, (N : Int) = M := ⟨_, rfl⟩
                      rw [hM] at hcu' hov' hN0 hval ⊢
                      clear hM
                      go_wp2
                      all_goals
                        go_roundg g'
                        case measure => exact Nat.lt_succ_self _
                        case rel => exact ⟨rfl, us, i + 1, V, rfl, by rw [hval.out], rfl, hst2⟩
              · by_cases hl : 97 ≤ C ||| 32 ∧ C ||| 32 ≤ 122
                · have hx : dg C = some ((C ||| 32) - 87) := by unfold dg; rw [if_neg hd, if_pos hl]
                  rw [hx] at h4
                  dsimp only at h4
                  have hlow := fun w => lower51 C hcl w
                  obtain ⟨q, hq⟩ : ∃ q : Nat, C ||| 32 = q := ⟨_, rfl⟩
                  rw [hq] at h4 hlow hl
                  obtain ⟨z, hz⟩ : ∃ z : Int, (C : Int) = z := ⟨_, rfl⟩
                  obtain ⟨y, hy⟩ : ∃ y : Int, (q : Int) = y := ⟨_, rfl⟩
                  rw [hz, hy] at hlow
                  rw [hz] at kc
                  have y1 : 97 ≤ y := by omega
                  have y2 : y ≤ 122 := by omega
                  have z1 : ¬ (48 ≤ z ∧ z ≤ 57) := by omega
                  have z5 : ¬ z = 95 := by omega
                  by_cases hdb : q - 87 ≥ 2
                  · have hR2 := hno (by rw [h4, if_pos hdb])
                    have hdb' : (2 : Int) ≤ y - 97 + 10 := by omega
                    clear h4 hno hst3 hdb hx hd hz hcl hz95 hl hq hy hN
                    go_wp2_with (go_at_call 51; refine (hlow _).mono ?_; rintro e w1 ⟨rfl, rfl⟩)
                    all_goals go_ret2
                    all_goals exact ⟨_, rfl, by first | (rw [hR2]; exact ⟨_, 2, .inr rfl, rfl⟩) | exact ⟨_, 2, .inr rfl, rfl⟩, hb2.out⟩
                  · exfalso; omega
                · have hR2 := hno (by rw [h4]; have hx : dg C = none := by { unfold dg; rw [if_neg hd, if_neg hl] }; rw [hx])
                  have hlow := fun w => lower51 C hcl w
                  obtain ⟨q, hq⟩ : ∃ q : Nat, C ||| 32 = q := ⟨_, rfl⟩
                  rw [hq] at hlow hl
                  obtain ⟨z, hz⟩ : ∃ z : Int, (C : Int) = z := ⟨_, rfl⟩
                  obtain ⟨y, hy⟩ : ∃ y : Int, (q : Int) = y := ⟨_, rfl⟩
                  rw [hz, hy] at hlow
                  rw [hz] at kc
                  have z1 : ¬ (48 ≤ z ∧ z ≤ 57) := by omega
                  have z5 : ¬ z = 95 := by omega
                  have hl2 : ¬ (97 ≤ y ∧ y ≤ 122) := by omega
                  clear h4 hno hst3 hl hd hq hz hy hcl hz95
                  by_cases y1 : 97 ≤ y
                  · have y2 : ¬ y ≤ 122 := fun h => hl2 ⟨y1, h⟩
                    clear hl2
                    go_wp2_with (go_at_call 51; refine (hlow _).mono ?_; rintro e w1 ⟨rfl, rfl⟩)
                    all_goals go_ret2
                    all_goals exact ⟨_, rfl, by first | (rw [hR2]; exact ⟨_, 2, .inr rfl, rfl⟩) | exact ⟨_, 2, .inr rfl, rfl⟩, hb2.out⟩
                  · clear hl2
                    go_wp2_with (go_at_call 51; refine (hlow _).mono ?_; rintro e w1 ⟨rfl, rfl⟩)
                    all_goals go_ret2
                    all_goals exact ⟨_, rfl, by first | (rw [hR2]; exact ⟨_, 2, .inr rfl, rfl⟩) | exact ⟨_, 2, .inr rfl, rfl⟩, hb2.out⟩
      · have hb2' : (((8 : Nat) : Int)) = 8 := rfl
        rw [hb2']
        clear hb2'
        go_wp2
        have hmx : IntKind.u64.wrap (IntKind.u64.wrap 18446744073709551616 - 1) = 18446744073709551615 := by decide
        rw [hmx]
        clear hmx
        go_loopg [12, 13, 101] n (fun gf s12 s13 s101 wx => wx = W ∧ ∃ (us : Bool) (i N : Nat), s12 = .bool us ∧ s13 = .int .u64 (N : Int) ∧ s101 = .int .i64 (i : Int) ∧ Hid (i ≤ n ∧ n ≤ i + gf ∧ N ≤ 18446744073709551615 ∧ numR 8 T 0 false = numR 8 (T.drop i) N us))
        case atStart => exact ⟨rfl, false, 0, 0, rfl, rfl, rfl, Lib.hid ⟨by omega, by omega, by omega, rfl⟩⟩
        case round =>
          obtain ⟨hwr, us, i, N, rfl, rfl, rfl, hst⟩ := hrel
          rw [hwr]
          clear hwr
          by_cases hin : i = n
          · subst hin
            have hR3 : R = if us = true ∧ uok s = false then none else some N := by
              obtain ⟨_, _, _, h4⟩ := hst.out
              have h5 := hnr.out
              have h6 : T.drop i = [] := List.drop_eq_nil_of_le (by rw [hn2.out]; exact Nat.le_refl _)
              rw [h4, h6, strB_tl] at h5
              exact h5
            have hs3 := hs2.out
            have c52 := fun w => under52 s w (by omega)
            clear hst hnr hcell2 hn2 hs2 hs3
            cases us with
            | false =>
              rw [if_neg (fun h => by cases h.1)] at hR3
              clear c52
              go_wp2
              all_goals go_ret2
              exact ⟨_, rfl, by rw [hR3]; exact rfl, hb2.out⟩
            | true =>
              obtain ⟨uo, huo⟩ : ∃ uo, uok s = uo := ⟨_, rfl⟩
              rw [huo] at c52 hR3
              clear huo
              cases uo with
              | false =>
                rw [if_pos ⟨rfl, rfl⟩] at hR3
                go_wp2_with (go_at_call 52; refine (c52 _).mono ?_; rintro e w1 ⟨rfl, hbl3⟩)
                all_goals go_ret2
                exact ⟨_, rfl, by rw [hR3]; exact ⟨_, 2, .inr rfl, rfl⟩, below_trans' hb2.out hbl3⟩
              | true =>
                rw [if_neg (fun h => by cases h.2)] at hR3
                go_wp2_with (go_at_call 52; refine (c52 _).mono ?_; rintro e w1 ⟨rfl, hbl3⟩)
                all_goals go_ret2
                exact ⟨_, rfl, by rw [hR3]; exact rfl, below_trans' hb2.out hbl3⟩
          · obtain ⟨hi1, hi3, hN, h4⟩ := hst.out
            have hi4 : i < n := by omega
            have hiT : i < T.length := by rw [hn2.out]; exact hi4
            obtain ⟨g', rfl⟩ : ∃ g', gk = g' + 1 := ⟨gk - 1, by omega⟩
            have kc := hcell2.out i hiT
            rw [List.drop_eq_getElem_cons hiT] at h4
            obtain ⟨c, hc⟩ : ∃ c, T[i] = c := ⟨_, rfl⟩
            rw [hc] at kc h4
            have hst3 := fun (us' : Bool) (N' : Nat) (h : numR 8 T 0 false = numR 8 (T.drop (i + 1)) N' us') (h2 : N' ≤ 18446744073709551615) => Lib.hid (show i + 1 ≤ n ∧ n ≤ i + 1 + g' ∧ N' ≤ 18446744073709551615 ∧ numR 8 T 0 false = numR 8 (T.drop (i + 1)) N' us' from ⟨by omega, by omega, h2, h⟩)
            have hno := fun (h : numR 8 T 0 false = none) => show R = none by have h5 := hnr.out; rw [h] at h5; exact h5
            have hi4z : (i : Int) < (n : Int) := by omega
            have hiz : (0 : Int) ≤ (i : Int) := by omega
            have hib : (i : Int) ≤ 1000000 := by have := hbl2.out; rw [hn2.out] at this; omega
            clear hst hc hcell2 hin hi1 hi3 hnr hs2 hbl2 hn2 hiT hi4
            by_cases h95 : c = 95
            · have hst2 := hst3 true N (by rw [h4, numR_cons, if_pos h95]) hN
              subst h95
              have kc2 : W.cell? ⟨w.heap.size, i, none⟩ = some (.int .u8 95) := kc
              clear kc h4 hst3 hno hN
              go_wp2
              go_roundg g'
              case measure => exact Nat.lt_succ_self _
              case rel => exact ⟨rfl, true, i + 1, N, rfl, rfl, rfl, hst2⟩
            · have hcl := c.toNat_lt
              have hz95 : c.toNat ≠ 95 := fun e => h95 (UInt8.toNat_inj.1 e)
              rw [numR_cons, if_neg h95] at h4
              obtain ⟨C, hC⟩ : ∃ C, c.toNat = C := ⟨_, rfl⟩
              rw [hC] at kc h4 hcl hz95
              clear h95 hC
              by_cases hd : 48 ≤ C ∧ C ≤ 57
              · have hx : dg C = some (C - 48) := by unfold dg; rw [if_pos hd]
                rw [hx] at h4
                dsimp only at h4
                obtain ⟨z, hz⟩ : ∃ z : Int, (C : Int) = z := ⟨_, rfl⟩
                rw [hz] at kc
                have z1 : 48 ≤ z := by omega
                have z2 : z ≤ 57 := by omega
                by_cases hdb : C - 48 ≥ 8
                · have hR2 := hno (by rw [h4, if_pos hdb])
                  have hdb' : (8 : Int) ≤ z - 48 := by omega
                  clear h4 hno hst3 hdb hx hd hz hcl hz95 hN
                  go_wp2
                  all_goals go_ret2
                  all_goals exact ⟨_, rfl, by first | (rw [hR2]; exact ⟨_, 2, .inr rfl, rfl⟩) | exact ⟨_, 2, .inr rfl, rfl⟩, hb2.out⟩
                · rw [if_neg hdb] at h4
                  have hdb' : z - 48 < 8 := by omega
                  by_cases hcu : N ≥ 18446744073709551615 / 8 + 1
                  · have hR2 := hno (by rw [h4, if_pos hcu])
                    have hcu' : (2305843009213693952 : Int) ≤ (N : Int) := by omega
                    clear h4 hno hst3 hdb hcu hx hd hz hcl hz95 hN
                    go_wp2
                    all_goals go_ret2
                    all_goals exact ⟨_, rfl, by first | (rw [hR2]; exact ⟨_, 1, .inl rfl, rfl⟩) | exact ⟨_, 1, .inl rfl, rfl⟩, hb2.out⟩
                  · rw [if_neg hcu] at h4
                    have hcu' : (N : Int) < 2305843009213693952 := by omega
                    have hN0 : (0 : Int) ≤ (N : Int) := by omega
                    have hval : Hid (((N * 8 + (C - 48) : Nat) : Int) = (N : Int) * 8 + (z - 48)) := Lib.hid (by omega)
                    by_cases hov : N * 8 + (C - 48) > 18446744073709551615
                    · have hR2 := hno (by rw [h4, if_pos hov])
                      have hov' : 18446744073709551615 < (N : Int) * 8 + (z - 48) := by omega
                      clear h4 hno hst3 hdb hcu hx hd hz hcl hz95 hN hov hval
                      obtain ⟨M, hM⟩ : ∃ M : Int, (N : Int) = M := ⟨_, rfl⟩
                      rw [hM] at hcu' hov' hN0 ⊢
                      clear hM
                      have hwr : IntKind.u64.wrap (M * 8 + (z - 48)) = M * 8 + (z - 48) - 18446744073709551616 := u64_over hov' (by omega)
                      go_wp2
                      all_goals go_ret2
                      all_goals exact ⟨_, rfl, by first | (rw [hR2]; exact ⟨_, 1, .inl rfl, rfl⟩) | exact ⟨_, 1, .inl rfl, rfl⟩, hb2.out⟩
                    · have hst2 := hst3 us (N * 8 + (C - 48)) (by rw [h4, if_neg hov]) (by omega)
                      have hov' : (N : Int) * 8 + (z - 48) ≤ 18446744073709551615 := by omega
                      obtain ⟨V, hV⟩ : ∃ V, N * 8 + (C - 48) = V := ⟨_, rfl⟩
                      rw [hV] at hst2 hval
                      clear h4 hno hst3 hdb hcu hx hd hz hcl hz95 hN hov hV
                      obtain ⟨M, hM⟩ : ∃ M : Int, (N : Int) = M := ⟨_, rfl⟩
                      rw [hM] at hcu' hov' hN0 hval ⊢
                      clear hM
                      go_wp2
                      all_goals
                        go_roundg g'
                        case measure => exact Nat.lt_succ_self _
                        case rel => exact ⟨rfl, us, i + 1, V, rfl, by rw [hval.out], rfl, hst2⟩
              · by_cases hl : 97 ≤ C ||| 32 ∧ C ||| 32 ≤ 122
                · have hx : dg C = some ((C ||| 32) - 87) := by unfold dg; rw [if_neg hd, if_pos hl]
                  rw [hx] at h4
                  dsimp only at h4
                  have hlow := fun w => lower51 C hcl w
                  obtain ⟨q, hq⟩ : ∃ q : Nat, C ||| 32 = q := ⟨_, rfl⟩
                  rw [hq] at h4 hlow hl
                  obtain ⟨z, hz⟩ : ∃ z : Int, (C : Int) = z := ⟨_, rfl⟩
                  obtain ⟨y, hy⟩ : ∃ y : Int, (q : Int) = y := ⟨_, rfl⟩
                  rw [hz, hy] at hlow
                  rw [hz] at kc
                  have y1 : 97 ≤ y := by omega
                  have y2 : y ≤ 122 := by omega
                  have z1 : ¬ (48 ≤ z ∧ z ≤ 57) := by omega
                  have z5 : ¬ z = 95 := by omega
                  by_cases hdb : q - 87 ≥ 8
                  · have hR2 := hno (by rw [h4, if_pos hdb])
                    have hdb' : (8 : Int) ≤ y - 97 + 10 := by omega
                    clear h4 hno hst3 hdb hx hd hz hcl hz95 hl hq hy hN
                    go_wp2_with (go_at_call 51; refine (hlow _).mono ?_; rintro e w1 ⟨rfl, rfl⟩)
                    all_goals go_ret2
                    all_goals exact ⟨_, rfl, by first | (rw [hR2]; exact ⟨_, 2, .inr rfl, rfl⟩) | exact ⟨_, 2, .inr rfl, rfl⟩, hb2.out⟩
                  · exfalso; omega
                · have hR2 := hno (by rw [h4]; have hx : dg C = none := by { unfold dg; rw [if_neg hd, if_neg hl] }; rw [hx])
                  have hlow := fun w => lower51 C hcl w
                  obtain ⟨q, hq⟩ : ∃ q : Nat, C ||| 32 = q := ⟨_, rfl⟩
                  rw [hq] at hlow hl
                  obtain ⟨z, hz⟩ : ∃ z : Int, (C : Int) = z := ⟨_, rfl⟩
                  obtain ⟨y, hy⟩ : ∃ y : Int, (q : Int) = y := ⟨_, rfl⟩
                  rw [hz, hy] at hlow
                  rw [hz] at kc
                  have z1 : ¬ (48 ≤ z ∧ z ≤ 57) := by omega
                  have z5 : ¬ z = 95 := by omega
                  have hl2 : ¬ (97 ≤ y ∧ y ≤ 122) := by omega
                  clear h4 hno hst3 hl hd hq hz hy hcl hz95
                  by_cases y1 : 97 ≤ y
                  · have y2 : ¬ y ≤ 122 := fun h => hl2 ⟨y1, h⟩
                    clear hl2
                    go_wp2_with (go_at_call 51; refine (hlow _).mono ?_; rintro e w1 ⟨rfl, rfl⟩)
                    all_goals go_ret2
                    all_goals exact ⟨_, rfl, by first | (rw [hR2]; exact ⟨_, 2, .inr rfl, rfl⟩) | exact ⟨_, 2, .inr rfl, rfl⟩, hb2.out⟩
                  · clear hl2
                    go_wp2_with (go_at_call 51; refine (hlow _).mono ?_; rintro e w1 ⟨rfl, rfl⟩)
                    all_goals go_ret2
                    all_goals exact ⟨_, rfl, by first | (rw [hR2]; exact ⟨_, 2, .inr rfl, rfl⟩) | exact ⟨_, 2, .inr rfl, rfl⟩, hb2.out⟩
      · have hb2' : (((10 : Nat) : Int)) = 10 := rfl
        rw [hb2']
        clear hb2'
        go_wp2
        have hmx : IntKind.u64.wrap (IntKind.u64.wrap 18446744073709551616 - 1) = 18446744073709551615 := by decide
        rw [hmx]
        clear hmx
        go_loopg [12, 13, 101] n (fun gf s12 s13 s101 wx => wx = W ∧ ∃ (us : Bool) (i N : Nat), s12 = .bool us ∧ s13 = .int .u64 (N : Int) ∧ s101 = .int .i64 (i : Int) ∧ Hid (i ≤ n ∧ n ≤ i + gf ∧ N ≤ 18446744073709551615 ∧ numR 10 T 0 false = numR 10 (T.drop i) N us))
        case atStart => exact ⟨rfl, false, 0, 0, rfl, rfl, rfl, Lib.hid ⟨by omega, by omega, by omega, rfl⟩⟩
        case round =>
          obtain ⟨hwr, us, i, N, rfl, rfl, rfl, hst⟩ := hrel
          rw [hwr]
          clear hwr
          by_cases hin : i = n
          · subst hin
            have hR3 : R = if us = true ∧ uok s = false then none else some N := by
              obtain ⟨_, _, _, h4⟩ := hst.out
              have h5 := hnr.out
              have h6 : T.drop i = [] := List.drop_eq_nil_of_le (by rw [hn2.out]; exact Nat.le_refl _)
              rw [h4, h6, strB_tl] at h5
              exact h5
            have hs3 := hs2.out
            have c52 := fun w => under52 s w (by omega)
            clear hst hnr hcell2 hn2 hs2 hs3
            cases us with
            | false =>
              rw [if_neg (fun h => by cases h.1)] at hR3
              clear c52
              go_wp2
              all_goals go_ret2
              exact ⟨_, rfl, by rw [hR3]; exact rfl, hb2.out⟩
            | true =>
              obtain ⟨uo, huo⟩ : ∃ uo, uok s = uo := ⟨_, rfl⟩
              rw [huo] at c52 hR3
              clear huo
              cases uo with
              | false =>
                rw [if_pos ⟨rfl, rfl⟩] at hR3
                go_wp2_with (go_at_call 52; refine (c52 _).mono ?_; rintro e w1 ⟨rfl, hbl3⟩)
                all_goals go_ret2
                exact ⟨_, rfl, by rw [hR3]; exact ⟨_, 2, .inr rfl, rfl⟩, below_trans' hb2.out hbl3⟩
              | true =>
                rw [if_neg (fun h => by cases h.2)] at hR3
                go_wp2_with (go_at_call 52; refine (c52 _).mono ?_; rintro e w1 ⟨rfl, hbl3⟩)
                all_goals go_ret2
                exact ⟨_, rfl, by rw [hR3]; exact rfl, below_trans' hb2.out hbl3⟩
          · obtain ⟨hi1, hi3, hN, h4⟩ := hst.out
            have hi4 : i < n := by omega
            have hiT : i < T.length := by rw [hn2.out]; exact hi4
            obtain ⟨g', rfl⟩ : ∃ g', gk = g' + 1 := ⟨gk - 1, by omega⟩
            have kc := hcell2.out i hiT
            rw [List.drop_eq_getElem_cons hiT] at h4
            obtain ⟨c, hc⟩ : ∃ c, T[i] = c := ⟨_, rfl⟩
            rw [hc] at kc h4
            have hst3 := fun (us' : Bool) (N' : Nat) (h : numR 10 T 0 false = numR 10 (T.drop (i + 1)) N' us') (h2 : N' ≤ 18446744073709551615) => Lib.hid (show i + 1 ≤ n ∧ n ≤ i + 1 + g' ∧ N' ≤ 18446744073709551615 ∧ numR 10 T 0 false = numR 10 (T.drop (i + 1)) N' us' from ⟨by omega, by omega, h2, h⟩)
            have hno := fun (h : numR 10 T 0 false = none) => show R = none by have h5 := hnr.out; rw [h] at h5; exact h5
            have hi4z : (i : Int) < (n : Int) := by omega
            have hiz : (0 : Int) ≤ (i : Int) := by omega
            have hib : (i : Int) ≤ 1000000 := by have := hbl2.out; rw [hn2.out] at this; omega
            clear hst hc hcell2 hin hi1 hi3 hnr hs2 hbl2 hn2 hiT hi4
            by_cases h95 : c = 95
            · have hst2 := hst3 true N (by rw [h4, numR_cons, if_pos h95]) hN
              subst h95
              have kc2 : W.cell? ⟨w.heap.size, i, none⟩ = some (.int .u8 95) := kc
              clear kc h4 hst3 hno hN
              go_wp2
              go_roundg g'
              case measure => exact Nat.lt_succ_self _
              case rel => exact ⟨rfl, true, i + 1, N, rfl, rfl, rfl, hst2⟩
            · have hcl := c.toNat_lt
              have hz95 : c.toNat ≠ 95 := fun e => h95 (UInt8.toNat_inj.1 e)
              rw [numR_cons, if_neg h95] at h4
              obtain ⟨C, hC⟩ : ∃ C, c.toNat = C := ⟨_, rfl⟩
              rw [hC] at kc h4 hcl hz95
              clear h95 hC
              by_cases hd : 48 ≤ C ∧ C ≤ 57
              · have hx : dg C = some (C - 48) := by unfold dg; rw [if_pos hd]
                rw [hx] at h4
                dsimp only at h4
                obtain ⟨z, hz⟩ : ∃ z : Int, (C : Int) = z := ⟨_, rfl⟩
                rw [hz] at kc
                have z1 : 48 ≤ z := by omega
                have z2 : z ≤ 57 := by omega
                by_cases hdb : C - 48 ≥ 10
                · exfalso; omega
                · rw [if_neg hdb] at h4
                  have hdb' : z - 48 < 10 := by omega
                  by_cases hcu : N ≥ 18446744073709551615 / 10 + 1
                  · have hR2 := hno (by rw [h4, if_pos hcu])
                    have hcu' : (1844674407370955162 : Int) ≤ (N : Int) := by omega
                    clear h4 hno hst3 hdb hcu hx hd hz hcl hz95 hN
                    go_wp2
                    all_goals go_ret2
                    all_goals exact ⟨_, rfl, by first | (rw [hR2]; exact ⟨_, 1, .inl rfl, rfl⟩) | exact ⟨_, 1, .inl rfl, rfl⟩, hb2.out⟩
                  · rw [if_neg hcu] at h4
                    have hcu' : (N : Int) < 1844674407370955162 := by omega
                    have hN0 : (0 : Int) ≤ (N : Int) := by omega
                    have hval : Hid (((N * 10 + (C - 48) : Nat) : Int) = (N : Int) * 10 + (z - 48)) := Lib.hid (by omega)
                    by_cases hov : N * 10 + (C - 48) > 18446744073709551615
                    · have hR2 := hno (by rw [h4, if_pos hov])
                      have hov' : 18446744073709551615 < (N : Int) * 10 + (z - 48) := by omega
                      clear h4 hno hst3 hdb hcu hx hd hz hcl hz95 hN hov hval
                      obtain ⟨M, hM⟩ : ∃ M : Int, (N : Int) = M := ⟨_, rfl⟩
                      rw [hM] at hcu' hov' hN0 ⊢
                      clear hM
                      have hwr : IntKind.u64.wrap (M * 10 + (z - 48)) = M * 10 + (z - 48) - 18446744073709551616 := u64_over hov' (by omega)
                      go_wp2
                      all_goals go_ret2
                      all_goals exact ⟨_, rfl, by first | (rw [hR2]; exact ⟨_, 1, .inl rfl, rfl⟩) | exact ⟨_, 1, .inl rfl, rfl⟩, hb2.out⟩
                    · have hst2 := hst3 us (N * 10 + (C - 48)) (by rw [h4, if_neg hov]) (by omega)
                      have hov' : (N : Int) * 10 + (z - 48) ≤ 18446744073709551615 := by omega
                      obtain ⟨V, hV⟩ : ∃ V, N * 10 + (C - 48) = V := ⟨_, rfl⟩
                      rw [hV] at hst2 hval
                      clear h4 hno hst3 hdb hcu hx hd hz hcl hz95 hN hov hV
                      obtain ⟨M, hM⟩ : ∃ M : Int, (N : Int) = M := ⟨_, rfl⟩
                      rw [hM] at hcu' hov' hN0 hval ⊢
                      clear hM
                      go_wp2
                      all_goals
                        go_roundg g'
                        case measure => exact Nat.lt_succ_self _
                        case rel => exact ⟨rfl, us, i + 1, V, rfl, by rw [hval.out], rfl, hst2⟩
              · by_cases hl : 97 ≤ C ||| 32 ∧ C ||| 32 ≤ 122
                · have hx : dg C = some ((C ||| 32) - 87) := by unfold dg; rw [if_neg hd, if_pos hl]
                  rw [hx] at h4
                  dsimp only at h4
                  have hlow := fun w => lower51 C hcl w
                  obtain ⟨q, hq⟩ : ∃ q : Nat, C ||| 32 = q := ⟨_, rfl⟩
                  rw [hq] at h4 hlow hl
                  obtain ⟨z, hz⟩ : ∃ z : Int, (C : Int) = z := ⟨_, rfl⟩
                  obtain ⟨y, hy⟩ : ∃ y : Int, (q : Int) = y := ⟨_, rfl⟩
                  rw [hz, hy] at hlow
                  rw [hz] at kc
                  have y1 : 97 ≤ y := by omega
                  have y2 : y ≤ 122 := by omega
                  have z1 : ¬ (48 ≤ z ∧ z ≤ 57) := by omega
                  have z5 : ¬ z = 95 := by omega
                  by_cases hdb : q - 87 ≥ 10
                  · have hR2 := hno (by rw [h4, if_pos hdb])
                    have hdb' : (10 : Int) ≤ y - 97 + 10 := by omega
                    clear h4 hno hst3 hdb hx hd hz hcl hz95 hl hq hy hN
                    go_wp2_with (go_at_call 51; refine (hlow _).mono ?_; rintro e w1 ⟨rfl, rfl⟩)
                    all_goals go_ret2
                    all_goals exact ⟨_, rfl, by first | (rw [hR2]; exact ⟨_, 2, .inr rfl, rfl⟩) | exact ⟨_, 2, .inr rfl, rfl⟩, hb2.out⟩
                  · exfalso; omega
                · have hR2 := hno (by rw [h4]; have hx : dg C = none := by { unfold dg; rw [if_neg hd, if_neg hl] }; rw [hx])
                  have hlow := fun w => lower51 C hcl w
                  obtain ⟨q, hq⟩ : ∃ q : Nat, C ||| 32 = q := ⟨_, rfl⟩
                  rw [hq] at hlow hl
                  obtain ⟨z, hz⟩ : ∃ z : Int, (C : Int) = z := ⟨_, rfl⟩
                  obtain ⟨y, hy⟩ : ∃ y : Int, (q : Int) = y := ⟨_, rfl⟩
                  rw [hz, hy] at hlow
                  rw [hz] at kc
                  have z1 : ¬ (48 ≤ z ∧ z ≤ 57) := by omega
                  have z5 : ¬ z = 95 := by omega
                  have hl2 : ¬ (97 ≤ y ∧ y ≤ 122) := by omega
                  clear h4 hno hst3 hl hd hq hz hy hcl hz95
                  by_cases y1 : 97 ≤ y
                  · have y2 : ¬ y ≤ 122 := fun h => hl2 ⟨y1, h⟩
                    clear hl2
                    go_wp2_with (go_at_call 51; refine (hlow _).mono ?_; rintro e w1 ⟨rfl, rfl⟩)
                    all_goals go_ret2
                    all_goals exact ⟨_, rfl, by first | (rw [hR2]; exact ⟨_, 2, .inr rfl, rfl⟩) | exact ⟨_, 2, .inr rfl, rfl⟩, hb2.out⟩
                  · clear hl2
                    go_wp2_with (go_at_call 51; refine (hlow _).mono ?_; rintro e w1 ⟨rfl, rfl⟩)
                    all_goals go_ret2
                    all_goals exact ⟨_, rfl, by first | (rw [hR2]; exact ⟨_, 2, .inr rfl, rfl⟩) | exact ⟨_, 2, .inr rfl, rfl⟩, hb2.out⟩
      · have hb2' : (((16 : Nat) : Int)) = 16 := rfl
        rw [hb2']
        clear hb2'
        go_wp2
        have hmx : IntKind.u64.wrap (IntKind.u64.wrap 18446744073709551616 - 1) = 18446744073709551615 := by decide
        rw [hmx]
        clear hmx
        go_loopg [12, 13, 101] n (fun gf s12 s13 s101 wx => wx = W ∧ ∃ (us : Bool) (i N : Nat), s12 = .bool us ∧ s13 = .int .u64 (N : Int) ∧ s101 = .int .i64 (i : Int) ∧ Hid (i ≤ n ∧ n ≤ i + gf ∧ N ≤ 18446744073709551615 ∧ numR 16 T 0 false = numR 16 (T.drop i) N us))
        case atStart => exact ⟨rfl, false, 0, 0, rfl, rfl, rfl, Lib.hid ⟨by omega, by omega, by omega, rfl⟩⟩
        case round =>
          obtain ⟨hwr, us, i, N, rfl, rfl, rfl, hst⟩ := hrel
          rw [hwr]
          clear hwr
          by_cases hin : i = n
          · subst hin
            have hR3 : R = if us = true ∧ uok s = false then none else some N := by
              obtain ⟨_, _, _, h4⟩ := hst.out
              have h5 := hnr.out
              have h6 : T.drop i = [] := List.drop_eq_nil_of_le (by rw [hn2.out]; exact Nat.le_refl _)
              rw [h4, h6, strB_tl] at h5
              exact h5
            have hs3 := hs2.out
            have c52 := fun w => under52 s w (by omega)
            clear hst hnr hcell2 hn2 hs2 hs3
            cases us with
            | false =>
              rw [if_neg (fun h => by cases h.1)] at hR3
              clear c52
              go_wp2
              all_goals go_ret2
              exact ⟨_, rfl, by rw [hR3]; exact rfl, hb2.out⟩
            | true =>
              obtain ⟨uo, huo⟩ : ∃ uo, uok s = uo := ⟨_, rfl⟩
              rw [huo] at c52 hR3
              clear huo
              cases uo with
              | false =>
                rw [if_pos ⟨rfl, rfl⟩] at hR3
                go_wp2_with (go_at_call 52; refine (c52 _).mono ?_; rintro e w1 ⟨rfl, hbl3⟩)
                all_goals go_ret2
                exact ⟨_, rfl, by rw [hR3]; exact ⟨_, 2, .inr rfl, rfl⟩, below_trans' hb2.out hbl3⟩
              | true =>
                rw [if_neg (fun h => by cases h.2)] at hR3
                go_wp2_with (go_at_call 52; refine (c52 _).mono ?_; rintro e w1 ⟨rfl, hbl3⟩)
                all_goals go_ret2
                exact ⟨_, rfl, by rw [hR3]; exact rfl, below_trans' hb2.out hbl3⟩
          · obtain ⟨hi1, hi3, hN, h4⟩ := hst.out
            have hi4 : i < n := by omega
            have hiT : i < T.length := by rw [hn2.out]; exact hi4
            obtain ⟨g', rfl⟩ : ∃ g', gk = g' + 1 := ⟨gk - 1, by omega⟩
            have kc := hcell2.out i hiT
            rw [List.drop_eq_getElem_cons hiT] at h4
            obtain ⟨c, hc⟩ : ∃ c, T[i] = c := ⟨_, rfl⟩
            rw [hc] at kc h4
            have hst3 := fun (us' : Bool) (N' : Nat) (h : numR 16 T 0 false = numR 16 (T.drop (i + 1)) N' us') (h2 : N' ≤ 18446744073709551615) => Lib.hid (show i + 1 ≤ n ∧ n ≤ i + 1 + g' ∧ N' ≤ 18446744073709551615 ∧ numR 16 T 0 false = numR 16 (T.drop (i + 1)) N' us' from ⟨by omega, by omega, h2, h⟩)
            have hno := fun (h : numR 16 T 0 false = none) => show R = none by have h5 := hnr.out; rw [h] at h5; exact h5
            have hi4z : (i : Int) < (n : Int) := by omega
            have hiz : (0 : Int) ≤ (i : Int) := by omega
            have hib : (i : Int) ≤ 1000000 := by have := hbl2.out; rw [hn2.out] at this; omega
            clear hst hc hcell2 hin hi1 hi3 hnr hs2 hbl2 hn2 hiT hi4
            by_cases h95 : c = 95
            · have hst2 := hst3 true N (by rw [h4, numR_cons, if_pos h95]) hN
              subst h95
              have kc2 : W.cell? ⟨w.heap.size, i, none⟩ = some (.int .u8 95) := kc
              clear kc h4 hst3 hno hN
              go_wp2
              go_roundg g'
              case measure => exact Nat.lt_succ_self _
              case rel => exact ⟨rfl, true, i + 1, N, rfl, rfl, rfl, hst2⟩
            · have hcl := c.toNat_lt
              have hz95 : c.toNat ≠ 95 := fun e => h95 (UInt8.toNat_inj.1 e)
              rw [numR_cons, if_neg h95] at h4
              obtain ⟨C, hC⟩ : ∃ C, c.toNat = C := ⟨_, rfl⟩
              rw [hC] at kc h4 hcl hz95
              clear h95 hC
              by_cases hd : 48 ≤ C ∧ C ≤ 57
              · have hx : dg C = some (C - 48) := by unfold dg; rw [if_pos hd]
                rw [hx] at h4
                dsimp only at h4
                obtain ⟨z, hz⟩ : ∃ z : Int, (C : Int) = z := ⟨_, rfl⟩
                rw [hz] at kc
                have z1 : 48 ≤ z := by omega
                have z2 : z ≤ 57 := by omega
                by_cases hdb : C - 48 ≥ 16
                · exfalso; omega
                · rw [if_neg hdb] at h4
                  have hdb' : z - 48 < 16 := by omega
                  by_cases hcu : N ≥ 18446744073709551615 / 16 + 1
                  · have hR2 := hno (by rw [h4, if_pos hcu])
                    have hcu' : (1152921504606846976 : Int) ≤ (N : Int) := by omega
                    clear h4 hno hst3 hdb hcu hx hd hz hcl hz95 hN
                    go_wp2
                    all_goals go_ret2
                    all_goals exact ⟨_, rfl, by first | (rw [hR2]; exact ⟨_, 1, .inl rfl, rfl⟩) | exact ⟨_, 1, .inl rfl, rfl⟩, hb2.out⟩
                  · rw [if_neg hcu] at h4
                    have hcu' : (N : Int) < 1152921504606846976 := by omega
                    have hN0 : (0 : Int) ≤ (N : Int) := by omega
                    have hval : Hid (((N * 16 + (C - 48) : Nat) : Int) = (N : Int) * 16 + (z - 48)) := Lib.hid (by omega)
                    by_cases hov : N * 16 + (C - 48) > 18446744073709551615
                    · have hR2 := hno (by rw [h4, if_pos hov])
                      have hov' : 18446744073709551615 < (N : Int) * 16 + (z - 48) := by omega
                      clear h4 hno hst3 hdb hcu hx hd hz hcl hz95 hN hov hval
                      obtain ⟨M, hM⟩ : ∃ M : Int, (N : Int) = M := ⟨_, rfl⟩
                      rw [hM] at hcu' hov' hN0 ⊢
                      clear hM
                      have hwr : IntKind.u64.wrap (M * 16 + (z - 48)) = M * 16 + (z - 48) - 18446744073709551616 := u64_over hov' (by omega)
                      go_wp2
                      all_goals go_ret2
                      all_goals exact ⟨_, rfl, by first | (rw [hR2]; exact ⟨_, 1, .inl rfl, rfl⟩) | exact ⟨_, 1, .inl rfl, rfl⟩, hb2.out⟩
                    · have hst2 := hst3 us (N * 16 + (C - 48)) (by rw [h4, if_neg hov]) (by omega)
                      have hov' : (N : Int) * 16 + (z - 48) ≤ 18446744073709551615 := by omega
                      obtain ⟨V, hV⟩ : ∃ V, N * 16 + (C - 48) = V := ⟨_, rfl⟩
                      rw [hV] at hst2 hval
                      clear h4 hno hst3 hdb hcu hx hd hz hcl hz95 hN hov hV
                      obtain ⟨M, hM⟩ : ∃ M : Int, (N : Int) = M := ⟨_, rfl⟩
                      rw [hM] at hcu' hov' hN0 hval ⊢
                      clear hM
                      go_wp2
                      all_goals
                        go_roundg g'
                        case measure => exact Nat.lt_succ_self _
                        case rel => exact ⟨rfl, us, i + 1, V, rfl, by rw [hval.out], rfl, hst2⟩
              · by_cases hl : 97 ≤ C ||| 32 ∧ C ||| 32 ≤ 122
                · have hx : dg C = some ((C ||| 32) - 87) := by unfold dg; rw [if_neg hd, if_pos hl]
                  rw [hx] at h4
                  dsimp only at h4
                  have hlow := fun w => lower51 C hcl w
                  obtain ⟨q, hq⟩ : ∃ q : Nat, C ||| 32 = q := ⟨_, rfl⟩
                  rw [hq] at h4 hlow hl
                  obtain ⟨z, hz⟩ : ∃ z : Int, (C : Int) = z := ⟨_, rfl⟩
                  obtain ⟨y, hy⟩ : ∃ y : Int, (q : Int) = y := ⟨_, rfl⟩
                  rw [hz, hy] at hlow
                  rw [hz] at kc
                  have y1 : 97 ≤ y := by omega
                  have y2 : y ≤ 122 := by omega
                  have z1 : ¬ (48 ≤ z ∧ z ≤ 57) := by omega
                  have z5 : ¬ z = 95 := by omega
                  by_cases hdb : q - 87 ≥ 16
                  · have hR2 := hno (by rw [h4, if_pos hdb])
                    have hdb' : (16 : Int) ≤ y - 97 + 10 := by omega
                    clear h4 hno hst3 hdb hx hd hz hcl hz95 hl hq hy hN
                    go_wp2_with (go_at_call 51; refine (hlow _).mono ?_; rintro e w1 ⟨rfl, rfl⟩)
                    all_goals go_ret2
                    all_goals exact ⟨_, rfl, by first | (rw [hR2]; exact ⟨_, 2, .inr rfl, rfl⟩) | exact ⟨_, 2, .inr rfl, rfl⟩, hb2.out⟩
                  · rw [if_neg hdb] at h4
                    have hdb' : y - 97 + 10 < 16 := by omega
                    by_cases hcu : N ≥ 18446744073709551615 / 16 + 1
                    · have hR2 := hno (by rw [h4, if_pos hcu])
                      have hcu' : (1152921504606846976 : Int) ≤ (N : Int) := by omega
                      clear h4 hno hst3 hdb hcu hx hd hz hcl hz95 hl hq hy hN
                      go_wp2_with (go_at_call 51; refine (hlow _).mono ?_; rintro e w1 ⟨rfl, rfl⟩)
                      all_goals go_ret2
                      all_goals exact ⟨_, rfl, by first | (rw [hR2]; exact ⟨_, 1, .inl rfl, rfl⟩) | exact ⟨_, 1, .inl rfl, rfl⟩, hb2.out⟩
                    · rw [if_neg hcu] at h4
                      have hcu' : (N : Int) < 1152921504606846976 := by omega
                      have hN0 : (0 : Int) ≤ (N : Int) := by omega
                      have hval : Hid (((N * 16 + (q - 87) : Nat) : Int) = (N : Int) * 16 + (y - 97 + 10)) := Lib.hid (by omega)
                      by_cases hov : N * 16 + (q - 87) > 18446744073709551615
                      · have hR2 := hno (by rw [h4, if_pos hov])
                        have hov' : 18446744073709551615 < (N : Int) * 16 + (y - 97 + 10) := by omega
                        clear h4 hno hst3 hdb hcu hx hd hz hcl hz95 hl hq hy hN hov hval
                        obtain ⟨M, hM⟩ : ∃ M : Int, (N : Int) = M := ⟨_, rfl⟩
                        rw [hM] at hcu' hov' hN0 ⊢
                        clear hM
                        have hwr : IntKind.u64.wrap (M * 16 + (y - 97 + 10)) = M * 16 + (y - 97 + 10) - 18446744073709551616 := u64_over hov' (by omega)
                        go_wp2_with (go_at_call 51; refine (hlow _).mono ?_; rintro e w1 ⟨rfl, rfl⟩)
                        all_goals go_ret2
                        all_goals exact ⟨_, rfl, by first | (rw [hR2]; exact ⟨_, 1, .inl rfl, rfl⟩) | exact ⟨_, 1, .inl rfl, rfl⟩, hb2.out⟩
                      · have hst2 := hst3 us (N * 16 + (q - 87)) (by rw [h4, if_neg hov]) (by omega)
                        have hov' : (N : Int) * 16 + (y - 97 + 10) ≤ 18446744073709551615 := by omega
                        obtain ⟨V, hV⟩ : ∃ V, N * 16 + (q - 87) = V := ⟨_, rfl⟩
                        rw [hV] at hst2 hval
                        clear h4 hno hst3 hdb hcu hx hd hz hcl hz95 hl hq hy hN hov hV
                        obtain ⟨M, hM⟩ : ∃ M : Int, (N : Int) = M := ⟨_, rfl⟩
                        rw [hM] at hcu' hov' hN0 hval ⊢
                        clear hM
                        go_wp2_with (go_at_call 51; refine (hlow _).mono ?_; rintro e w1 ⟨rfl, rfl⟩)
                        all_goals
                          go_roundg g'
                          case measure => exact Nat.lt_succ_self _
                          case rel => exact ⟨rfl, us, i + 1, V, rfl, by rw [hval.out], rfl, hst2⟩
                · have hR2 := hno (by rw [h4]; have hx : dg C = none := by { unfold dg; rw [if_neg hd, if_neg hl] }; rw [hx])
                  have hlow := fun w => lower51 C hcl w
                  obtain ⟨q, hq⟩ : ∃ q : Nat, C ||| 32 = q := ⟨_, rfl⟩
                  rw [hq] at hlow hl
                  obtain ⟨z, hz⟩ : ∃ z : Int, (C : Int) = z := ⟨_, rfl⟩
                  obtain ⟨y, hy⟩ : ∃ y : Int, (q : Int) = y := ⟨_, rfl⟩
                  rw [hz, hy] at hlow
                  rw [hz] at kc
                  have z1 : ¬ (48 ≤ z ∧ z ≤ 57) := by omega
                  have z5 : ¬ z = 95 := by omega
                  have hl2 : ¬ (97 ≤ y ∧ y ≤ 122) := by omega
                  clear h4 hno hst3 hl hd hq hz hy hcl hz95
                  by_cases y1 : 97 ≤ y
                  · have y2 : ¬ y ≤ 122 := fun h => hl2 ⟨y1, h⟩
                    clear hl2
                    go_wp2_with (go_at_call 51; refine (hlow _).mono ?_; rintro e w1 ⟨rfl, rfl⟩)
                    all_goals go_ret2
                    all_goals exact ⟨_, rfl, by first | (rw [hR2]; exact ⟨_, 2, .inr rfl, rfl⟩) | exact ⟨_, 2, .inr rfl, rfl⟩, hb2.out⟩
                  · clear hl2
                    go_wp2_with (go_at_call 51; refine (hlow _).mono ?_; rintro e w1 ⟨rfl, rfl⟩)
                    all_goals go_ret2
                    all_goals exact ⟨_, rfl, by first | (rw [hR2]; exact ⟨_, 2, .inr rfl, rfl⟩) | exact ⟨_, 2, .inr rfl, rfl⟩, hb2.out⟩
end Go.Proofs.YtjabjcgomnjpcaaDoor.Given
