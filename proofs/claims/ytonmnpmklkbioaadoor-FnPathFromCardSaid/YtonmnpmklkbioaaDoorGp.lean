/- 4 texts of this claim, one behind the other. -/
import Derived.Test.YtonmnpmklkbioaaDoorGo
import Derived.Test.YtonmnpmklkbioaaDoorDt
/- spec.NameFrom. -/
namespace Go.Proofs.YtonmnpmklkbioaaDoor.Given
open Go.RowKit Go.Proofs.YtonmnpmklkbioaaDoorW.PrintWords Go.Proofs.YtonmnpmklkbioaaDoorW.PrintLast Go.Proofs.YtonmnpmklkbioaaDoorW.PrintMore Go.Proofs.YtonmnpmklkbioaaDoor.PN
open Go.Proofs.YtonmnpmklkbioaaDoor.Pt (Ch Tk flat chars Pr decC dleft dright dmid undotC unq qt lsign)
open Go.Proofs.YtonmnpmklkbioaaDoor.Sy (tl strB tl_size strB_tl tl_strB tkm tkm_ok hasB ErrOk dmidA)
set_option linter.unusedVariables false
set_option linter.unusedSimpArgs false
set_option maxHeartbeats 2000000 in
set_option maxRecDepth 100000 in
theorem from23 (m : Int) (s : ByteArray) (w : World) (hs : s.size ≤ 100000000) :
    Calls Tryd.prog 23 #[.int .u64 m, .string s] w fun e w' => e = .returned (.string (fromN m s)) ∧ Below w.heap.size w w' := by
  have c25 := fun W => dec25 33652738 s W (by omega)
  have c17 := fun W => enc17 m (decN 33652738 s) W (by have := decN_size 33652738 s; omega)
  by_cases hm : m = 33652738
  · have e : fromN m s = s := by unfold fromN; rw [if_pos hm]
    rw [e]
    subst hm
    clear c25 c17
    go_enter Tryd.func23, Tryd.ntmps23
    go_wp2
    go_ret
    exact ⟨rfl, Below.refl _ _⟩
  · have e : fromN m s = encN m (decN 33652738 s) := by unfold fromN; rw [if_neg hm]
    have hm1 : (m == 33652738) = false := by rw [beq_eq_false_iff_ne]; exact hm
    rw [e]
    obtain ⟨t, ht⟩ : ∃ t, decN 33652738 s = t := ⟨_, rfl⟩
    rw [ht] at c25 c17 ⊢
    obtain ⟨u, hu⟩ : ∃ u, encN m t = u := ⟨_, rfl⟩
    rw [hu] at c17 ⊢
    clear ht hu e
    go_enter Tryd.func23, Tryd.ntmps23
    go_wp2_with (first | (go_at_call 25; refine (c25 _).mono ?_; rintro e w1 ⟨rfl, h1⟩; clear c25) | (go_at_call 17; refine (c17 _).mono ?_; rintro e w2 ⟨rfl, h2⟩; clear c17))
    go_ret
    exact ⟨rfl, h1.trans (h2.mono h1.size)⟩
end Go.Proofs.YtonmnpmklkbioaaDoor.Given
/- Paths: the closure of laws.FnPathFrom. -/
namespace Go.Proofs.YtonmnpmklkbioaaDoor.Given
open Go.RowKit Go.Proofs.YtonmnpmklkbioaaDoorW.PrintWords Go.Proofs.YtonmnpmklkbioaaDoorW.PrintLast Go.Proofs.YtonmnpmklkbioaaDoorW.PrintMore Go.Proofs.YtonmnpmklkbioaaDoor.PN
set_option linter.unusedVariables false
set_option linter.unusedSimpArgs false
set_option maxHeartbeats 1000000 in
theorem want27 {mp : Addr} {m : Int} (s : ByteArray) {w : World} (hm : w.cell? mp = some (.int .u64 m)) (hs : s.size ≤ 100000000) :
    Calls Tryd.prog 27 #[.string s, .pointer (some mp)] w fun e w' => e = .returned (.string (fromN m s)) ∧ Below w.heap.size w w' := by
  have c := fun W => from23 m s W hs
  obtain ⟨t, ht⟩ : ∃ t, fromN m s = t := ⟨_, rfl⟩
  rw [ht] at c ⊢
  clear ht
  go_enter Tryd.func27, Tryd.ntmps27
  go_wp2_with (go_at_call 23; refine (c _).mono ?_; rintro e w1 ⟨rfl, h1⟩)
  go_ret
  exact ⟨rfl, h1⟩
end Go.Proofs.YtonmnpmklkbioaaDoor.Given
/- spec.PathEach over the closure of laws.FnPathFrom. -/
namespace Go.Proofs.YtonmnpmklkbioaaDoor.Given
open Go.RowKit Go.Lib Go.Proofs.YtonmnpmklkbioaaDoorW.PrintWords Go.Proofs.YtonmnpmklkbioaaDoorW.PrintLast Go.Proofs.YtonmnpmklkbioaaDoorW.PrintMore Go.Proofs.YtonmnpmklkbioaaDoor.PN
open Go.Proofs.YtonmnpmklkbioaaDoor.Pt (pieces pieces_ne pieces_nil pieces_cons joined joined_cons)
open Go.Proofs.YtonmnpmklkbioaaDoor.Sy (tl strB tl_size strB_tl tl_strB size_strB)
set_option linter.unusedVariables false
set_option linter.unusedSimpArgs false
set_option maxHeartbeats 8000000 in
set_option maxRecDepth 100000 in
theorem each29 {mp : Addr} {m : Int} (s : ByteArray) {w : World} (hm : w.cell? mp = some (.int .u64 m)) (hs : s.size ≤ 10000000) :
    Calls Tryd.prog 29 #[.string s, .func (.func 27) #[] #[.pointer (some mp)]] w fun e w' => e = .returned (.string (strB (joined ((pieces [] (tl s)).map (frP m))))) ∧ Below w.heap.size w w' := by
  have hmb := World.block_lt_of_cell? w _ hm
  have hts := tl_size s
  have hlen : (joined ((pieces [] (tl s)).map (frP m))).length ≤ 3000000000 := path_len m s hs
  have hF : ∀ p : List UInt8, fromN m (strB p) = strB (frP m p) := fun p => by unfold frP; rw [strB_tl]
  have c27 := fun (p : List UInt8) (W : World) (h : W.cell? mp = some (.int .u64 m)) (hp : p.length ≤ 100000000) => want27 (strB p) h (by rw [size_strB]; exact hp)
  simp only [hF] at c27
  obtain ⟨F, hFF⟩ : ∃ F, frP m = F := ⟨_, rfl⟩
  rw [hFF] at c27 hlen ⊢
  clear hF hFF
  obtain ⟨R, hR⟩ : ∃ R, joined ((pieces [] (tl s)).map F) = R := ⟨_, rfl⟩
  have hR0 : Hid (todoP F (tl s) 0 0 = R) := Lib.hid (by
    rw [← hR]
    unfold todoP
    rw [if_pos (Nat.zero_le _), List.drop_zero]
    rfl)
  rw [hR] at hlen ⊢
  have hlen2 : Hid (R.length ≤ 3000000000) := hlen
  clear hR hlen
  go_enter Tryd.func29, Tryd.ntmps29
  go_wp2
  go_loopg [5, 6, 7] (s.size + 1) (fun gf s5 s6 s7 wx => ∃ (i f : Nat) (out : List UInt8), s6 = .int .i64 (f : Int) ∧ s7 = .int .i64 (i : Int) ∧ f ≤ i ∧ i ≤ s.size + 1 ∧ s.size + 1 ≤ i + gf ∧ wx.ownsRow w.heap.size 5 1 s5 out.length (byV out) ∧ Below w.heap.size w wx ∧ Hid (out ++ todoP F (tl s) i f = R))
  case atStart => exact ⟨0, 0, [], rfl, rfl, Nat.le_refl _, by omega, by omega, own_nil _ _ _ _, Below.refl _ _, hR0⟩
  case round =>
    obtain ⟨i, f, out, rfl, rfl, hfi, hi, hg, HO, HB, hH⟩ := hrel
    clear hR0
    have hbase := HB.size
    have hcell := (HB.cell hmb).trans hm
    have hol : out.length ≤ 3000000000 := by
      have h1 := congrArg List.length hH.out
      have h2 := hlen2.out
      rw [List.length_append] at h1
      omega
    have w1 : wrap64 ((i : Int) + 1) = ((i + 1 : Nat) : Int) := w64n (k := 1) (by omega)
    by_cases hi1 : i = s.size + 1
    · have c1 : ((i : Int) ≤ (s.size : Int)) = False := by simp; omega
      have hend : out = R := by
        have := hH.out
        unfold todoP at this
        rw [if_neg (by rw [hts]; omega), List.append_nil] at this
        exact this
      have htx := textS HO
      rw [hend] at htx
      clear hH hend HO c27 hcell hm hts hol
      go_wp2
      go_ret
      exact ⟨rfl, HB⟩
    · have c1 : (i : Int) ≤ (s.size : Int) := by omega
      obtain ⟨g', rfl⟩ : ∃ g', gk = g' + 1 := ⟨gk - 1, by omega⟩
      by_cases hin : i < s.size
      · have c2 : (i : Int) < (s.size : Int) := by omega
        have hil : i < (tl s).length := by rw [hts]; exact hin
        have hgt := get_at hin
        have hgx : s.get! i = s[i]'hin := by
          show s.data[i]! = _
          exact getElem!_pos s.data i hin
        by_cases h47 : s.get! i = 47
        · have hb : (((s[i]'hin).toNat : Int) != 47) = false := by rw [← hgx, h47]; rfl
          have hst := todo_slash (F := F) hil hfi (by rw [← hgt]; exact h47)
          rw [hst] at hH
          have hex : s.extract f i = strB (((tl s).take i).drop f) := extract_piece
          have hpl : ((((tl s).take i).drop f)).length ≤ 10000000 := by rw [List.length_drop, List.length_take]; omega
          have cc := fun W h => c27 (((tl s).take i).drop f) W h (by omega)
          obtain ⟨p, hp⟩ : ∃ p, ((tl s).take i).drop f = p := ⟨_, rfl⟩
          rw [hp] at hH hex cc
          have hRl := hlen2.out
          have htot : out.length + (F p).length + 1 ≤ 3000000000 := by
            have h1 := congrArg List.length hH.out
            rw [List.length_append, List.length_append, List.length_cons] at h1
            omega
          have htot2 : Hid (out.length + (F p).length + 1 ≤ 3000000000) := htot
          have hH2 : Hid ((out ++ F p ++ [47]) ++ todoP F (tl s) (i + 1) (i + 1) = R) := Lib.hid (by
            have := hH.out
            simpa using this)
          have hgi2 : Hid (i + 1 ≤ s.size + 1 ∧ s.size + 1 ≤ i + 1 + g') := Lib.hid (by omega)
          have k1 : (f : Int) ≤ (i : Int) := by omega
          have k2 : (i : Int) ≤ (s.size : Int) := by omega
          clear hst hH hgt hgx h47 c27 hp hpl hol hil hi hg hi1 hfi htot hRl hts
          go_wp2_with (first | (go_at_call 27; refine (cc _ hcell).mono ?_; rintro e w2 ⟨rfl, h2⟩; clear cc; have HO2 := own_move (w1 := w2) HO (fun k hk => h2.block k (own_lt HO k hk)); have HB2 := HB.trans (h2.mono hbase)) | ((with_reducible refine gate_builtin (b := .append) (xs := #[.tmp 24, .tmp 30]) rfl ?_); at_builtin; refine stepAppS (w0 := w) rfl (.tmp 24) (.tmp 30) rfl w.heap.size rfl HO2 (F p) rfl (by have := htot2.out; omega) HB2 HB2.size ?_; intro v3 w3 HO3 HB3) | ((with_reducible refine gate_builtin (b := .append) (xs := #[.tmp 36, .tmp 37]) rfl ?_); at_builtin; refine stepAppB (w0 := w) rfl (.tmp 36) (.tmp 37) rfl w.heap.size rfl HO3 47 rfl (by have := htot2.out; rw [List.length_append]; omega) HB3 HB3.size ?_; intro v4 w4 HO4 HB4))
          go_roundg g'
          case measure => omega
          case rel => exact ⟨i + 1, i + 1, out ++ F p ++ [47], by simp, by simp, Nat.le_refl _, hgi2.out.1, hgi2.out.2, HO4, HB4, hH2⟩
        · have hb : (((s[i]'hin).toNat : Int) != 47) = true := by
            rw [← hgx, bne_iff_ne]
            intro e
            apply h47
            have : (s.get! i).toNat = 47 := by omega
            exact UInt8.toNat_inj.1 this
          have hst := todo_step (F := F) hil hfi (by rw [← hgt]; exact h47)
          rw [hst] at hH
          have hgi2 : Hid (f ≤ i + 1 ∧ i + 1 ≤ s.size + 1 ∧ s.size + 1 ≤ i + 1 + g') := Lib.hid (by omega)
          clear hst hgt hgx h47 c27 hcell hm hts hol hil hi hg hi1 hfi
          go_wp2
          go_roundg g'
          case measure => omega
          case rel => exact ⟨i + 1, f, out, rfl, by simp, hgi2.out.1, hgi2.out.2.1, hgi2.out.2.2, HO, HB, hH⟩
      · have hie : i = s.size := by omega
        have c2 : ((i : Int) < (s.size : Int)) = False := by simp; omega
        have hst := todo_end F (tl s) f
        rw [hts, ← hie] at hst
        rw [hst] at hH
        have hex : s.extract f i = strB ((tl s).drop f) := by
          rw [extract_piece, List.take_of_length_le (by rw [hts]; omega)]
        have hpl : ((tl s).drop f).length ≤ 10000000 := by rw [List.length_drop]; omega
        have cc := fun W h => c27 ((tl s).drop f) W h (by omega)
        obtain ⟨p, hp⟩ : ∃ p, (tl s).drop f = p := ⟨_, rfl⟩
        rw [hp] at hH hex cc
        have hRl := hlen2.out
        have htot2 : Hid (out.length + (F p).length ≤ 3000000000) := Lib.hid (by
          have h1 := congrArg List.length hH.out
          rw [List.length_append] at h1
          omega)
        have hH2 : Hid ((out ++ F p) ++ todoP F (tl s) (i + 1) (i + 1) = R) := Lib.hid (by
          unfold todoP
          rw [if_neg (by rw [hts]; omega), List.append_nil]
          exact hH.out)
        have hgi2 : Hid (i + 1 ≤ s.size + 1 ∧ s.size + 1 ≤ i + 1 + g') := Lib.hid (by omega)
        have k1 : (f : Int) ≤ (i : Int) := by omega
        have k2 : (i : Int) ≤ (s.size : Int) := by omega
        clear hst hH c27 hp hpl hol hi hg hi1 hin hfi hRl hts hie
        go_wp2_with (first | (go_at_call 27; refine (cc _ hcell).mono ?_; rintro e w2 ⟨rfl, h2⟩; clear cc; have HO2 := own_move (w1 := w2) HO (fun k hk => h2.block k (own_lt HO k hk)); have HB2 := HB.trans (h2.mono hbase)) | ((with_reducible refine gate_builtin (b := .append) (xs := #[.tmp 24, .tmp 30]) rfl ?_); at_builtin; refine stepAppS (w0 := w) rfl (.tmp 24) (.tmp 30) rfl w.heap.size rfl HO2 (F p) rfl (by have := htot2.out; omega) HB2 HB2.size ?_; intro v3 w3 HO3 HB3))
        go_roundg g'
        case measure => omega
        case rel => exact ⟨i + 1, i + 1, out ++ F p, by simp, by simp, Nat.le_refl _, hgi2.out.1, hgi2.out.2, HO3, HB3, hH2⟩
end Go.Proofs.YtonmnpmklkbioaaDoor.Given
/- The walk of laws.FnPathFrom. -/
namespace Go.Proofs.YtonmnpmklkbioaaDoor.Given
open Go.RowKit Go.Lib Go.Proofs.YtonmnpmklkbioaaDoorW.PrintWords Go.Proofs.YtonmnpmklkbioaaDoorW.PrintLast Go.Proofs.YtonmnpmklkbioaaDoorW.PrintMore Go.Proofs.YtonmnpmklkbioaaDoor.PN
open Go.Proofs.YtonmnpmklkbioaaDoor.Pt (pieces pieces_ne joined joined_cons joined_pieces)
open Go.Proofs.YtonmnpmklkbioaaDoor.Sy (tl strB tl_size strB_tl tl_strB size_strB)
set_option linter.unusedVariables false
set_option linter.unusedSimpArgs false
set_option maxRecDepth 100000 in
theorem colon_path : strB (joined ((pieces [] (tl ⟨#[58, 47, 58]⟩)).map (frP 128))) = ⟨#[239, 188, 154, 47, 239, 188, 154]⟩ := by decide +kernel
set_option maxHeartbeats 2000000 in
set_option maxRecDepth 100000 in
theorem law11 (m : Int) (s : ByteArray) (w : World) (hW : Wo w) : Calls Tryd.prog 11 #[.int .u64 m, .string s] w fun e w' => e = .returned (.bool true) ∧ Below w.heap.size w w' := by
  have hb0 : Below w.heap.size w (w.alloc (.cells #[.int .u64 m] 22)) := (Below.refl _ w).alloc (Nat.le_refl _) _
  have hb2 : Hid (Below w.heap.size w (w.alloc (.cells #[.int .u64 m] 22))) := hb0
  by_cases hs : s.size ≤ 2147483647
  · have hs1 : ((s.size : Int) > 2147483647) = False := by simp; omega
    have c16 := short_cell s (w.alloc (.cells #[.int .u64 m] 22)) hs
    rw [World.size_alloc] at c16
    obtain ⟨b, hb⟩ : ∃ b, decide ((s.size : Int) ≤ 65536) = b := ⟨_, rfl⟩
    rw [hb] at c16
    cases b with
    | false =>
      clear hb hs hb0 hW
      go_enter Tryd.func11, Tryd.ntmps11
      go_wp2_with (go_at_call 16; refine c16.mono ?_; rintro e w1 ⟨rfl, h1⟩; clear c16)
      go_ret
      exact ⟨rfl, hb2.out.trans (h1.mono (Nat.le_succ _))⟩
    | true =>
      have hsz : (s.size : Int) ≤ 65536 := of_decide_eq_true hb
      have hc0 : (w.alloc (.cells #[.int .u64 m] 22)).cell? ⟨w.heap.size, 0, none⟩ = some (.int .u64 m) := by rw [Lib.cell_of_heap (heap_alloc_new w _)]; rfl
      have hc0' : Hid ((w.alloc (.cells #[.int .u64 m] 22)).cell? ⟨w.heap.size, 0, none⟩ = some (.int .u64 m)) := hc0
      have c28 := fun W (h : Wo W) => path28 m s W (by omega) h
      have d28 := fun W (h : Wo W) => path28 128 ⟨#[58, 47, 58]⟩ W (by decide) h
      have c29 := fun (W : World) (h : W.cell? ⟨w.heap.size, 0, none⟩ = some (.int .u64 m)) => each29 s h (by omega)
      rw [show pathF 128 ⟨#[58, 47, 58]⟩ = ⟨#[239, 188, 154, 47, 239, 188, 154]⟩ from colon_path] at d28
      rw [show strB (joined ((pieces [] (tl s)).map (frP m))) = pathF m s from rfl] at c29
      obtain ⟨t, ht⟩ : ∃ t, pathF m s = t := ⟨_, rfl⟩
      rw [ht] at c28 c29
      clear hb hs hsz ht hc0 hb0
      go_enter Tryd.func11, Tryd.ntmps11
      go_wp2_with (first | (go_at_call 16; refine c16.mono ?_; rintro e w1 ⟨rfl, h1⟩; clear c16; have hc1 := (h1.cell (p := ⟨w.heap.size, 0, none⟩) (Nat.lt_succ_self _)).trans hc0'.out; have g1 := hb2.out.trans (h1.mono (Nat.le_succ _))) | (go_at_call 28; refine (c28 _ (hW.below g1)).mono ?_; rintro e w2 ⟨rfl, h2⟩; clear c28; have hc2 := (h2.cell (World.block_lt_of_cell? w1 _ hc1)).trans hc1; have g2 := g1.trans (h2.mono g1.size)) | (go_at_call 29; refine (c29 _ hc2).mono ?_; rintro e w3 ⟨rfl, h3⟩; clear c29; have g3 := g2.trans (h3.mono g2.size)) | (go_at_call 28; refine (d28 _ (hW.below g3)).mono ?_; rintro e w4 ⟨rfl, h4⟩; clear d28; have g4 := g3.trans (h4.mono g3.size)))
      go_ret
      exact ⟨rfl, g4⟩
  · have hs1 : ((s.size : Int) > 2147483647) = True := by simp; omega
    clear hb0
    go_enter Tryd.func11, Tryd.ntmps11
    go_wp2
    go_ret
    exact ⟨rfl, hb2.out⟩
end Go.Proofs.YtonmnpmklkbioaaDoor.Given
