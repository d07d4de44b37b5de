/- 4 texts of this claim, one behind the other. -/
import Derived.Test.YtonmnpmklkbioaaDoorGm
import Derived.Test.YtonmnpmklkbioaaDoorGf
import Derived.Test.YtonmnpmklkbioaaDoorGo
import Derived.Test.YtonmnpmklkbioaaDoorGa
/- What a mask has written has nothing that the mask takes: laws.encKept says so. -/
namespace Go.Proofs.YtonmnpmklkbioaaDoor.Given
open Go.RowKit Go.Lib
open Go.Proofs.YtonmnpmklkbioaaDoor.Pt (Ch Tk flat chars Plain NoP encC hexc)
open Go.Proofs.YtonmnpmklkbioaaDoor.Sy (tl strB tl_size strB_tl tl_strB tkm tkm_ok hasB bitsOf)
set_option linter.unusedVariables false
set_option linter.unusedSimpArgs false
theorem hex_bits : ∀ n : Fin 16, Nat.beq (hexc n.val) 0 = false ∧ bitsOf (hexc n.val) = [] ∧ Nat.beq (hexc n.val) 32 = false ∧ Nat.beq (hexc n.val) 46 = false ∧ Nat.beq (hexc n.val) 9 = false ∧ Nat.beq (hexc n.val) 10 = false ∧ Nat.beq (hexc n.val) 11 = false ∧ Nat.beq (hexc n.val) 13 = false := by decide
theorem tkm_fine (m : Int) : (tkm m).Fine where
  toOk := tkm_ok m
  hext n hn := by
    obtain ⟨h1, h2, _⟩ := hex_bits ⟨n, hn⟩
    show (Nat.beq (hexc n) 0 || (bitsOf (hexc n)).any (hasB m)) = false
    rw [h1, h2]
    rfl
  hexr n hn := by
    obtain ⟨_, _, h3, h4, h5, h6, h7, h8⟩ := hex_bits ⟨n, hn⟩
    show ((Nat.beq (hexc n) 32 && hasB m 2097152) || (Nat.beq (hexc n) 46 && hasB m 4194304) || ((Nat.beq (hexc n) 9 || Nat.beq (hexc n) 10 || Nat.beq (hexc n) 11 || Nat.beq (hexc n) 13) && hasB m 8388608)) = false
    rw [h3, h4, h5, h6, h7, h8]
    rfl
  dott := Sy.tkm_dot m
theorem kept_enc (m : Int) (x : ByteArray) (hm : m ≠ 1) : keptB m (encN m x) = true := by
  obtain ⟨L, hL⟩ : ∃ L, chars (tl x) = L := ⟨_, rfl⟩
  have hc : chars (tl (encN m x)) = encC (tkm m) L := by rw [← hL]; exact chars_enc m x hm
  obtain ⟨h1, h2, h3⟩ := Pt.enc_kept (tkm_fine m) L
  unfold keptB dotB
  rw [hc]
  by_cases h0 : (encN m x).toList = []
  · rw [h0]; rfl
  · have e0 : ((encN m x).toList == []) = false := by simpa using h0
    rw [e0, Bool.false_or, Bool.and_eq_true]
    constructor
    · have htl : (encN m x).toList = tl (encN m x) := Sy.tl_eq _
      cases hd : hasB m 33554432 with
      | false => rfl
      | true =>
        obtain ⟨d1, d2⟩ := Pt.enc_dots (tkm_fine m) (show (tkm m).dot = true from hd) L
        have g1 : Pt.Good 46 := .inl (by omega)
        rw [htl]
        have e1 : (tl (encN m x) == [46]) = decide (chars (tl (encN m x)) = [.g 46]) := by
          rw [show ([46] : List UInt8) = flat [.g 46] by decide]; exact Sy.chars_eq ⟨g1, trivial⟩
        have e2 : (tl (encN m x) == [46, 46]) = decide (chars (tl (encN m x)) = [.g 46, .g 46]) := by
          rw [show ([46, 46] : List UInt8) = flat [.g 46, .g 46] by decide]; exact Sy.chars_eq ⟨g1, g1, trivial⟩
        rw [e1, e2, hc, decide_eq_false d1, decide_eq_false d2]
        rfl
    · rw [Bool.and_eq_true]
      constructor
      · rw [List.all_eq_true]
        intro c hcm
        have := h1 c hcm
        unfold keepB
        cases c with
        | g r =>
          have h : (tkm m).t r = false := this
          show (!(tkm m).t r && !(false && hasB m 16777216)) = true
          rw [h]; rfl
        | b y =>
          have h : hasB m 16777216 = false := this
          show (!false && !(true && hasB m 16777216)) = true
          rw [h]; rfl
      · unfold endsB
        cases hh : (encC (tkm m) L).head? with
        | none => rfl
        | some a =>
          cases hl : (encC (tkm m) L).getLast? with
          | none => rfl
          | some b =>
            dsimp only
            have ha : leftB m a = false := by
              cases a with
              | b y => rfl
              | g r =>
                cases hE : encC (tkm m) L with
                | nil => rw [hE] at hh; cases hh
                | cons c T =>
                  rw [hE] at hh
                  cases hh
                  exact h2 _ _ hE r rfl
            have hb : rightB m b = false := by
              cases b with
              | b y => rfl
              | g r =>
                have hne : encC (tkm m) L ≠ [] := by intro e; rw [e] at hl; cases hl
                have h4 := List.dropLast_concat_getLast hne
                have h5 : (encC (tkm m) L).getLast hne = .g r := by
                  have := List.getLast?_eq_some_getLast hne
                  rw [this] at hl
                  exact Option.some.inj hl
                rw [h5] at h4
                exact h3 _ _ h4.symm r rfl
            rw [ha, hb]
            rfl
theorem enc_noslash (m : Int) (x : ByteArray) (hm : m ≠ 1) (h2 : hasB m 2 = true) : ∀ b ∈ tl (encN m x), b ≠ 47 := by
  intro b hb e
  subst e
  have hc := chars_enc m x hm
  have hp : Pt.Pr (chars (tl (encN m x))) := Pt.pr_chars _
  have hf := Pt.flat_chars' (tl (encN m x))
  rw [← hf] at hb
  have hg := Pt.flat_low hp hb (by decide)
  rw [hc] at hg
  have := (Pt.enc_kept (tkm_fine m) (chars (tl x))).1 _ hg
  have h47 : (tkm m).t 47 = false := this
  have h48 : (tkm m).t 47 = true := by
    show (Nat.beq 47 0 || (bitsOf 47).any (hasB m)) = true
    rw [show bitsOf 47 = [2] by decide]
    simp [h2]
  rw [h47] at h48
  cases h48
end Go.Proofs.YtonmnpmklkbioaaDoor.Given
/- spec.PathEach over the closure of laws.FnPathClean. -/
namespace Go.Proofs.YtonmnpmklkbioaaDoor.Given
open Go.RowKit Go.Lib Go.Proofs.YtonmnpmklkbioaaDoorW.PrintWords Go.Proofs.YtonmnpmklkbioaaDoorW.PrintLast Go.Proofs.YtonmnpmklkbioaaDoorW.PrintMore Go.Proofs.YtonmnpmklkbioaaDoor.PN Go.Proofs.YtonmnpmklkbioaaDoor.PM
open Go.Proofs.YtonmnpmklkbioaaDoor.Pt (pieces pieces_ne pieces_nil pieces_cons joined joined_cons chars)
open Go.Proofs.YtonmnpmklkbioaaDoor.Sy (tl strB tl_size strB_tl tl_strB size_strB)
set_option linter.unusedVariables false
set_option linter.unusedSimpArgs false
theorem kept32 (m : Int) (s : ByteArray) (w : World) (hs : s.size ≤ 1000000000000) : Calls Tryd.prog 32 #[.int .u64 m, .string s] w fun e w' => e = .returned (.bool (keptB m s)) ∧ Below w.heap.size w w' :=
  laws_encKept.calls _ m s (keptB m s) w (kept_f m s hs)
/-- What is stored is there already. -/
theorem same_cell {w : World} {g : Nat} {v : Value} {t : TypeId} (h : w.heap[g]? = some (.cells #[v] t (0, 0))) : Below w.heap.size w (w.setCell ⟨g, 0, none⟩ v) := by
  refine ⟨rfl, rfl, rfl, by simp [World.setCell], fun k _ => ?_⟩
  simp only [World.setCell, Array.getElem?_modify]
  split
  · rename_i e
    subst e
    rw [h]
    rfl
  · rfl
set_option maxHeartbeats 1000000 in
theorem good31 {mp : Addr} {g : Nat} {m : Int} (s : ByteArray) {w : World} (hm : w.cell? mp = some (.int .u64 m)) (hg : w.heap[g]? = some (.cells #[.bool true] 4 (0, 0))) (hk : keptB m s = true) (hs : s.size ≤ 100000000000) :
    Calls Tryd.prog 31 #[.string s, .pointer (some ⟨g, 0, none⟩), .pointer (some mp)] w fun e w' => e = .returned (.string ⟨#[]⟩) ∧ Below w.heap.size w w' := by
  have c := fun W => kept32 m s W (by omega)
  rw [hk] at c
  have hlt := (Array.getElem?_eq_some_iff.1 hg).1
  have hc : w.cell? ⟨g, 0, none⟩ = some (.bool true) := by rw [Lib.cell_of_heap hg]; rfl
  clear hk
  go_enter Tryd.func31, Tryd.ntmps31
  go_wp2_with (go_at_call 32; refine (c _).mono ?_; rintro e w1 ⟨rfl, h1⟩; have hg1 := (h1.block g hlt).trans hg; have hc1 : w1.cell? ⟨g, 0, none⟩ = some (.bool true) := by { rw [Lib.cell_of_heap hg1]; rfl }; have hf1 : w1.frozen? ⟨g, 0, none⟩ = false := by { simp [World.frozen?, hg1] })
  go_ret
  exact ⟨rfl, h1.trans ((same_cell hg1).mono h1.size)⟩
/-- The pieces that are still to come have K. -/
def comeP (K : List UInt8 → Prop) (l : List UInt8) (i f : Nat) : Prop := i ≤ l.length → ∀ q ∈ pieces ((l.take i).drop f) (l.drop i), K q
theorem come_end {K : List UInt8 → Prop} {l : List UInt8} {f : Nat} (h : comeP K l l.length f) : K (l.drop f) := by
  have := h (Nat.le_refl _)
  rw [List.take_length, List.drop_length, pieces_nil] at this
  exact this _ List.mem_cons_self
theorem come_step {K : List UInt8 → Prop} {l : List UInt8} {i f : Nat} (hi : i < l.length) (hf : f ≤ i) (h : l.getD i 0 ≠ 47) (hc : comeP K l i f) : comeP K l (i + 1) f := by
  intro _
  have h1 := hc (by omega)
  have hx : l.getD i 0 = l[i] := by simp [List.getD, hi]
  rw [hx] at h
  rw [List.drop_eq_getElem_cons hi, pieces_cons, if_neg h] at h1
  rw [List.take_succ_eq_append_getElem hi, List.drop_append_of_le_length (by rw [List.length_take]; omega)]
  exact h1
theorem come_slash {K : List UInt8 → Prop} {l : List UInt8} {i f : Nat} (hi : i < l.length) (hf : f ≤ i) (h : l.getD i 0 = 47) (hc : comeP K l i f) : K ((l.take i).drop f) ∧ comeP K l (i + 1) (i + 1) := by
  have h1 := hc (by omega)
  have hx : l.getD i 0 = l[i] := by simp [List.getD, hi]
  rw [hx] at h
  rw [List.drop_eq_getElem_cons hi, pieces_cons, if_pos h] at h1
  have he : (l.take (i + 1)).drop (i + 1) = [] := List.drop_eq_nil_of_le (by rw [List.length_take]; omega)
  refine ⟨h1 _ List.mem_cons_self, fun _ => ?_⟩
  rw [he]
  exact fun q hq => h1 q (List.mem_cons_of_mem _ hq)
theorem come_out {K : List UInt8 → Prop} {l : List UInt8} {f : Nat} (i : Nat) (hi : l.length < i) : comeP K l i f := fun h => by omega
theorem noF_len (s : ByteArray) (hs : s.size ≤ 10000000000) : (joined ((pieces [] (tl s)).map fun _ : List UInt8 => ([] : List UInt8))).length ≤ 30000000000 := by
  have h1 := Pt.joined_len ((pieces [] (tl s)).map fun _ : List UInt8 => ([] : List UInt8))
  have hpl := Pt.pieces_len (tl s) []
  rw [tl_size] at hpl
  rw [List.length_map] at h1
  have h2 : ∀ Q : List (List UInt8), ((Q.map fun _ : List UInt8 => ([] : List UInt8)).map List.length).sum = 0 := by
    intro Q
    induction Q with
    | nil => rfl
    | cons q Q ih => simpa using ih
  rw [h2] at h1
  omega
end Go.Proofs.YtonmnpmklkbioaaDoor.Given
/- spec.PathEach over the closure of laws.FnPathClean. -/
namespace Go.Proofs.YtonmnpmklkbioaaDoor.Given
open Go.RowKit Go.Lib Go.Proofs.YtonmnpmklkbioaaDoorW.PrintWords Go.Proofs.YtonmnpmklkbioaaDoorW.PrintLast Go.Proofs.YtonmnpmklkbioaaDoorW.PrintMore Go.Proofs.YtonmnpmklkbioaaDoor.PN Go.Proofs.YtonmnpmklkbioaaDoor.PM
open Go.Proofs.YtonmnpmklkbioaaDoor.Pt (pieces pieces_ne pieces_nil pieces_cons joined joined_cons chars)
open Go.Proofs.YtonmnpmklkbioaaDoor.Sy (tl strB tl_size strB_tl tl_strB size_strB)
set_option linter.unusedVariables false
set_option linter.unusedSimpArgs false
set_option maxHeartbeats 8000000 in
set_option maxRecDepth 100000 in
theorem each29k {mp : Addr} {g : Nat} {m : Int} (s : ByteArray) {w : World} (hm : w.cell? mp = some (.int .u64 m)) (hgd : w.heap[g]? = some (.cells #[.bool true] 4 (0, 0))) (hs : s.size ≤ 10000000000) (hK : ∀ p ∈ pieces [] (tl s), keptB m (strB p) = true) :
    Calls Tryd.prog 29 #[.string s, .func (.func 31) #[] #[.pointer (some ⟨g, 0, none⟩), .pointer (some mp)]] w fun e w' => e = .returned (.string (strB (joined ((pieces [] (tl s)).map fun _ => [])))) ∧ Below w.heap.size w w' := by
  have hmb := World.block_lt_of_cell? w _ hm
  have hts := tl_size s
  have hgb : Hid (g < w.heap.size) := (Array.getElem?_eq_some_iff.1 hgd).1
  have hgd' : Hid (w.heap[g]? = some (.cells #[.bool true] 4 (0, 0))) := hgd
  clear hgd
  have hlen := noF_len s hs
  have c27 := fun (p : List UInt8) (W : World) (h : W.cell? mp = some (.int .u64 m)) (h2 : W.heap[g]? = some (.cells #[.bool true] 4 (0, 0))) (hk : keptB m (strB p) = true) (hp : p.length ≤ 100000000000) => good31 (strB p) h h2 hk (by rw [size_strB]; exact hp)
  have hF : (⟨#[]⟩ : ByteArray) = strB [] := rfl
  rw [hF] at c27
  obtain ⟨F, hFF⟩ : ∃ F : List UInt8 → List UInt8, (fun _ => []) = F := ⟨_, rfl⟩
  have hFp : ∀ p, ([] : List UInt8) = F p := fun p => by rw [← hFF]
  have hFp2 : Hid (∀ p, ([] : List UInt8) = F p) := hFp
  rw [hFF] at hlen ⊢
  clear hF hFF hFp
  have hC0 : Hid (comeP (fun p => keptB m (strB p) = true) (tl s) 0 0) := Lib.hid (fun _ => by rw [List.drop_zero]; exact hK)
  clear hK
  obtain ⟨R, hR⟩ : ∃ R, joined ((pieces [] (tl s)).map F) = R := ⟨_, rfl⟩
  have hR0 : Hid (todoP F (tl s) 0 0 = R) := Lib.hid (by
    rw [← hR]
    unfold todoP
    rw [if_pos (Nat.zero_le _), List.drop_zero]
    rfl)
  rw [hR] at hlen ⊢
  have hlen2 : Hid (R.length ≤ 30000000000) := hlen
  clear hR hlen
  go_enter Tryd.func29, Tryd.ntmps29
  go_wp2
  go_loopg [5, 6, 7] (s.size + 1) (fun gf s5 s6 s7 wx => ∃ (i f : Nat) (out : List UInt8), s6 = .int .i64 (f : Int) ∧ s7 = .int .i64 (i : Int) ∧ f ≤ i ∧ i ≤ s.size + 1 ∧ s.size + 1 ≤ i + gf ∧ wx.ownsRow w.heap.size 5 1 s5 out.length (byV out) ∧ Below w.heap.size w wx ∧ Hid (out ++ todoP F (tl s) i f = R) ∧ Hid (comeP (fun p => keptB m (strB p) = true) (tl s) i f))
  case atStart => exact ⟨0, 0, [], rfl, rfl, Nat.le_refl _, by omega, by omega, own_nil _ _ _ _, Below.refl _ _, hR0, hC0⟩
  case round =>
    obtain ⟨i, f, out, rfl, rfl, hfi, hi, hg, HO, HB, hH, hC⟩ := hrel
    clear hR0 hC0
    have hbase := HB.size
    have hcell := (HB.cell hmb).trans hm
    have hgc : Hid (wr.heap[g]? = some (.cells #[.bool true] 4 (0, 0))) := (HB.block g hgb.out).trans hgd'.out
    have hol : out.length ≤ 30000000000 := by
      have h1 := congrArg List.length hH.out
      have h2 := hlen2.out
      rw [List.length_append] at h1
      omega
    have w1 : wrap64 ((i : Int) + 1) = ((i + 1 : Nat) : Int) := w64n (k := 1) (by omega)
    by_cases hi1 : i = s.size + 1
    · have c1 : ((i : Int) ≤ (s.size : Int)) = False := by simp; omega
      have hend : out = R := by
        have := hH.out
        unfold todoP at this
        rw [if_neg (by rw [hts]; omega), List.append_nil] at this
        exact this
      have htx := textS HO
      rw [hend] at htx
      clear hH hend HO c27 hcell hm hts hol hgc hC
      go_wp2
      go_ret
      exact ⟨rfl, HB⟩
    · have c1 : (i : Int) ≤ (s.size : Int) := by omega
      obtain ⟨g', rfl⟩ : ∃ g', gk = g' + 1 := ⟨gk - 1, by omega⟩
      by_cases hin : i < s.size
      · have c2 : (i : Int) < (s.size : Int) := by omega
        have hil : i < (tl s).length := by rw [hts]; exact hin
        have hgt := get_at hin
        have hgx : s.get! i = s[i]'hin := by
          show s.data[i]! = _
          exact getElem!_pos s.data i hin
        by_cases h47 : s.get! i = 47
        · have hb : (((s[i]'hin).toNat : Int) != 47) = false := by rw [← hgx, h47]; rfl
          have hst := todo_slash (F := F) hil hfi (by rw [← hgt]; exact h47)
          rw [hst] at hH
          obtain ⟨hKp, hC2⟩ := come_slash hil hfi (by rw [← hgt]; exact h47) hC.out
          have hC3 : Hid (comeP (fun p => keptB m (strB p) = true) (tl s) (i + 1) (i + 1)) := hC2
          have hex : s.extract f i = strB (((tl s).take i).drop f) := extract_piece
          have hpl : ((((tl s).take i).drop f)).length ≤ 10000000000 := by rw [List.length_drop, List.length_take]; omega
          have cc := fun W h h2 => c27 (((tl s).take i).drop f) W h h2 hKp (by omega)
          obtain ⟨p, hp⟩ : ∃ p, ((tl s).take i).drop f = p := ⟨_, rfl⟩
          rw [hp] at hH hex cc
          rw [hFp2.out p] at cc
          have hRl := hlen2.out
          have htot : out.length + (F p).length + 1 ≤ 30000000000 := by
            have h1 := congrArg List.length hH.out
            rw [List.length_append, List.length_append, List.length_cons] at h1
            omega
          have htot2 : Hid (out.length + (F p).length + 1 ≤ 30000000000) := htot
          have hH2 : Hid ((out ++ F p ++ [47]) ++ todoP F (tl s) (i + 1) (i + 1) = R) := Lib.hid (by
            have := hH.out
            simpa using this)
          have hgi2 : Hid (i + 1 ≤ s.size + 1 ∧ s.size + 1 ≤ i + 1 + g') := Lib.hid (by omega)
          have k1 : (f : Int) ≤ (i : Int) := by omega
          have k2 : (i : Int) ≤ (s.size : Int) := by omega
          clear hst hH hgt hgx h47 c27 hp hpl hol hil hi hg hi1 hfi htot hRl hts hC hC2 hKp
          go_wp2_with (first | (go_at_call 31; refine (cc _ hcell hgc.out).mono ?_; rintro e w2 ⟨rfl, h2⟩; clear cc; have HO2 := own_move (w1 := w2) HO (fun k hk => h2.block k (own_lt HO k hk)); have HB2 := HB.trans (h2.mono hbase)) | ((with_reducible refine gate_builtin (b := .append) (xs := #[.tmp 24, .tmp 30]) rfl ?_); at_builtin; refine stepAppS (w0 := w) rfl (.tmp 24) (.tmp 30) rfl w.heap.size rfl HO2 (F p) rfl (by have := htot2.out; omega) HB2 HB2.size ?_; intro v3 w3 HO3 HB3) | ((with_reducible refine gate_builtin (b := .append) (xs := #[.tmp 36, .tmp 37]) rfl ?_); at_builtin; refine stepAppB (w0 := w) rfl (.tmp 36) (.tmp 37) rfl w.heap.size rfl HO3 47 rfl (by have := htot2.out; rw [List.length_append]; omega) HB3 HB3.size ?_; intro v4 w4 HO4 HB4))
          go_roundg g'
          case measure => omega
          case rel => exact ⟨i + 1, i + 1, out ++ F p ++ [47], by simp, by simp, Nat.le_refl _, hgi2.out.1, hgi2.out.2, HO4, HB4, hH2, hC3⟩
        · have hb : (((s[i]'hin).toNat : Int) != 47) = true := by
            rw [← hgx, bne_iff_ne]
            intro e
            apply h47
            have : (s.get! i).toNat = 47 := by omega
            exact UInt8.toNat_inj.1 this
          have hst := todo_step (F := F) hil hfi (by rw [← hgt]; exact h47)
          have hC2 : Hid (comeP (fun p => keptB m (strB p) = true) (tl s) (i + 1) f) := come_step hil hfi (by rw [← hgt]; exact h47) hC.out
          rw [hst] at hH
          have hgi2 : Hid (f ≤ i + 1 ∧ i + 1 ≤ s.size + 1 ∧ s.size + 1 ≤ i + 1 + g') := Lib.hid (by omega)
          clear hst hgt hgx h47 c27 hcell hm hts hol hil hi hg hi1 hfi hC hgc
          go_wp2
          go_roundg g'
          case measure => omega
          case rel => exact ⟨i + 1, f, out, rfl, by simp, hgi2.out.1, hgi2.out.2.1, hgi2.out.2.2, HO, HB, hH, hC2⟩
      · have hie : i = s.size := by omega
        have c2 : ((i : Int) < (s.size : Int)) = False := by simp; omega
        have hst := todo_end F (tl s) f
        rw [hts, ← hie] at hst
        rw [hst] at hH
        have hKp : keptB m (strB ((tl s).drop f)) = true := come_end (by rw [hts, ← hie]; exact hC.out)
        have hC3 : Hid (comeP (fun p => keptB m (strB p) = true) (tl s) (i + 1) (i + 1)) := come_out _ (by rw [hts]; omega)
        have hex : s.extract f i = strB ((tl s).drop f) := by
          rw [extract_piece, List.take_of_length_le (by rw [hts]; omega)]
        have hpl : ((tl s).drop f).length ≤ 10000000000 := by rw [List.length_drop]; omega
        have cc := fun W h h2 => c27 ((tl s).drop f) W h h2 hKp (by omega)
        obtain ⟨p, hp⟩ : ∃ p, (tl s).drop f = p := ⟨_, rfl⟩
        rw [hp] at hH hex cc
        rw [hFp2.out p] at cc
        have hRl := hlen2.out
        have htot2 : Hid (out.length + (F p).length ≤ 30000000000) := Lib.hid (by
          have h1 := congrArg List.length hH.out
          rw [List.length_append] at h1
          omega)
        have hH2 : Hid ((out ++ F p) ++ todoP F (tl s) (i + 1) (i + 1) = R) := Lib.hid (by
          unfold todoP
          rw [if_neg (by rw [hts]; omega), List.append_nil]
          exact hH.out)
        have hgi2 : Hid (i + 1 ≤ s.size + 1 ∧ s.size + 1 ≤ i + 1 + g') := Lib.hid (by omega)
        have k1 : (f : Int) ≤ (i : Int) := by omega
        have k2 : (i : Int) ≤ (s.size : Int) := by omega
        clear hst hH c27 hp hpl hol hi hg hi1 hin hfi hRl hts hie hC hKp
        go_wp2_with (first | (go_at_call 31; refine (cc _ hcell hgc.out).mono ?_; rintro e w2 ⟨rfl, h2⟩; clear cc; have HO2 := own_move (w1 := w2) HO (fun k hk => h2.block k (own_lt HO k hk)); have HB2 := HB.trans (h2.mono hbase)) | ((with_reducible refine gate_builtin (b := .append) (xs := #[.tmp 24, .tmp 30]) rfl ?_); at_builtin; refine stepAppS (w0 := w) rfl (.tmp 24) (.tmp 30) rfl w.heap.size rfl HO2 (F p) rfl (by have := htot2.out; omega) HB2 HB2.size ?_; intro v3 w3 HO3 HB3))
        go_roundg g'
        case measure => omega
        case rel => exact ⟨i + 1, i + 1, out ++ F p, by simp, by simp, Nat.le_refl _, hgi2.out.1, hgi2.out.2, HO3, HB3, hH2, hC3⟩
end Go.Proofs.YtonmnpmklkbioaaDoor.Given
/- The walk of laws.FnPathClean. -/
namespace Go.Proofs.YtonmnpmklkbioaaDoor.Given
open Go.RowKit Go.Lib Go.Proofs.YtonmnpmklkbioaaDoorW.PrintWords Go.Proofs.YtonmnpmklkbioaaDoorW.PrintLast Go.Proofs.YtonmnpmklkbioaaDoorW.PrintMore Go.Proofs.YtonmnpmklkbioaaDoor.PN Go.Proofs.YtonmnpmklkbioaaDoor.PM
open Go.Proofs.YtonmnpmklkbioaaDoor.Pt (pieces pieces_ne pieces_joined joined joined_cons joined_two)
open Go.Proofs.YtonmnpmklkbioaaDoor.Sy (tl strB tl_size strB_tl tl_strB size_strB hasB)
set_option linter.unusedVariables false
set_option linter.unusedSimpArgs false
def fitsB (l : List ByteArray) : Bool := decide (l.length ≤ 2147483647) && l.all fun s => decide (s.size ≤ 2147483647)
def sumS (l : List ByteArray) : Nat := (l.map ByteArray.size).sum
theorem rd_mid (A : List ByteArray) (x : ByteArray) (R : List ByteArray) (i : Int) (h : i = (A.length : Int)) : rdOf ByteArray.empty (A ++ x :: R) i = x := by
  subst h
  show (A ++ x :: R).getD _ _ = x
  simp [List.getD]
theorem fits_l0 {L : List ByteArray} (hL : L.length ≤ 2147483647) : ∀ (R A : List ByteArray), L = A ++ R → laws_zzFits3.l0 (R.length + 1) L (L.length : Int) (A.length : Int) = some (R.all fun s => decide (s.size ≤ 2147483647))
  | [], A, h => by
    have : L.length = A.length := by rw [h]; simp
    unfold laws_zzFits3.l0
    rw [if_neg (by omega)]
    rfl
  | x :: R, A, h => by
    have hl : L.length = A.length + (R.length + 1) := by rw [h]; simp
    have ih := fits_l0 hL R (A ++ [x]) (by rw [h]; simp)
    have e0 : wrap64 ((A.length : Int) + 1) = ((A.length + 1 : Nat) : Int) := w64n (k := 1) (by omega)
    have e1 : ((A ++ [x]).length : Int) = wrap64 ((A.length : Int) + 1) := by rw [e0]; simp
    rw [e1] at ih
    have hx : rdOf ByteArray.empty L (A.length : Int) = x := by rw [h]; exact rd_mid A x R _ rfl
    rw [show (x :: R).length + 1 = (R.length + 1) + 1 from rfl]
    unfold laws_zzFits3.l0
    rw [if_pos (by omega), if_pos (by omega), if_pos (by omega), hx, ih, List.all_cons]
    by_cases hs : x.size ≤ 2147483647
    · rw [if_neg (by omega), decide_eq_true hs]; rfl
    · rw [if_pos (by omega), decide_eq_false hs]; rfl
theorem fits_is (L : List ByteArray) : laws_zzFits3.f (L.length + 1) L = some (fitsB L) := by
  unfold laws_zzFits3.f fitsB
  by_cases hL : L.length ≤ 2147483647
  · rw [if_neg (by omega), decide_eq_true hL]
    have := fits_l0 hL L [] rfl
    simpa using this
  · rw [if_pos (by omega), decide_eq_false hL]; rfl
theorem sum_le : ∀ (L : List ByteArray), (∀ s ∈ L, s.size ≤ 2147483647) → sumS L ≤ 2147483647 * L.length
  | [], _ => Nat.zero_le _
  | x :: L, h => by
    have := sum_le L (fun s hs => h s (List.mem_cons_of_mem _ hs))
    have := h x List.mem_cons_self
    unfold sumS at *
    simp only [List.map_cons, List.sum_cons, List.length_cons]
    omega
theorem sum_app (A B : List ByteArray) : sumS (A ++ B) = sumS A + sumS B := by unfold sumS; rw [List.map_append, List.sum_append]
theorem short_l0 {L : List ByteArray} (hL : L.length ≤ 2147483647) (hs : ∀ s ∈ L, s.size ≤ 2147483647) : ∀ (R A : List ByteArray), L = A ++ R → laws_encShort.l0 (R.length + 1) (sumS A : Int) L (L.length : Int) (A.length : Int) = some (decide (sumS L ≤ 65536))
  | [], A, h => by
    have : L.length = A.length := by rw [h]; simp
    have e : sumS A = sumS L := by rw [h, List.append_nil]
    unfold laws_encShort.l0
    rw [if_neg (by omega), e]
    congr 1
    exact decide_eq_decide.2 (by omega)
  | x :: R, A, h => by
    have hl : L.length = A.length + (R.length + 1) := by rw [h]; simp
    have ih := short_l0 hL hs R (A ++ [x]) (by rw [h]; simp)
    have hx1 : x.size ≤ 2147483647 := hs x (by rw [h]; simp)
    have hA := sum_le A (fun s hs' => hs s (by rw [h]; simp [hs']))
    have e0 : wrap64 ((A.length : Int) + 1) = ((A.length + 1 : Nat) : Int) := w64n (k := 1) (by omega)
    have e1 : ((A ++ [x]).length : Int) = wrap64 ((A.length : Int) + 1) := by rw [e0]; simp
    have e2 : (sumS (A ++ [x]) : Int) = wrap64 ((sumS A : Int) + (x.size : Int)) := by
      rw [sum_app, w64n (by
        have : 2147483647 * A.length ≤ 2147483647 * 2147483647 := Nat.mul_le_mul_left _ (by omega)
        omega)]
      rfl
    rw [e1, e2] at ih
    have hx : rdOf ByteArray.empty L (A.length : Int) = x := by rw [h]; exact rd_mid A x R _ rfl
    rw [show (x :: R).length + 1 = (R.length + 1) + 1 from rfl]
    unfold laws_encShort.l0
    rw [if_pos (by omega), if_pos (by omega), if_pos (by omega), hx, ih]
theorem short_is {L : List ByteArray} (h : fitsB L = true) : laws_encShort.f (L.length + 1) L = some (decide (sumS L ≤ 65536)) := by
  unfold fitsB at h
  rw [Bool.and_eq_true, decide_eq_true_eq, List.all_eq_true] at h
  exact short_l0 h.1 (fun s hs => of_decide_eq_true (h.2 s hs)) L [] rfl
/-- The path that Standard writes of names. -/
def stdE (x : ByteArray) : List UInt8 := tl (encN 33652738 x)
def pathOf (L : List ByteArray) : List UInt8 := joined (L.map stdE)
theorem pathOf_snoc (L : List ByteArray) (x : ByteArray) (h : L ≠ []) : pathOf (L ++ [x]) = pathOf L ++ 47 :: stdE x := by
  unfold pathOf
  rw [List.map_append, joined_two _ _ (by simpa using h) (by simp)]
  rfl
theorem pathOf_len : ∀ L : List ByteArray, (pathOf L).length ≤ 12 * sumS L + 17 * L.length
  | [] => Nat.zero_le _
  | x :: L => by
    have ih := pathOf_len L
    have hx : (stdE x).length ≤ 12 * x.size + 16 := by unfold stdE; rw [tl_size]; exact encN_size _ _
    unfold pathOf sumS at *
    rw [List.map_cons, List.map_cons, List.sum_cons, List.length_cons]
    cases hL : L.map stdE with
    | nil => simp only [joined]; omega
    | cons q Q =>
      rw [joined_cons _ (List.cons_ne_nil _ _), List.length_append, List.length_cons, ← hL]
      omega
theorem dec_x : decN 33652738 ⟨#[120]⟩ = ⟨#[120]⟩ := by decide +kernel
theorem path_x (m : Int) : pathF m ⟨#[120]⟩ = ⟨#[120]⟩ := by
  have h : pathF m ⟨#[120]⟩ = fromN m ⟨#[120]⟩ := by
    unfold pathF
    show strB (joined ((pieces [] [120]).map (frP m))) = _
    rw [Pt.pieces_noslash [120] [] (by decide)]
    show strB (tl (fromN m (strB [120]))) = _
    rw [strB_tl]
    rfl
  rw [h]
  unfold fromN
  split
  · rfl
  · rw [dec_x, enc_letter m 120 (by decide) (by decide)]
theorem take_snoc {L : List ByteArray} {i : Nat} (hi : i < L.length) : L.take (i + 1) = L.take i ++ [L.getD i ByteArray.empty] := by
  rw [List.take_succ_eq_append_getElem hi]
  simp [List.getD, hi]
theorem sum_take (L : List ByteArray) (i : Nat) : sumS (L.take i) ≤ sumS L := by
  have := sum_app (L.take i) (L.drop i)
  rw [List.take_append_drop] at this
  omega
set_option maxHeartbeats 4000000 in
set_option maxRecDepth 100000 in
theorem law12 (m : Int) (A : Option Addr) (cap : Nat) (names : List ByteArray) (w : World) (hr : Kd.C Kd.string w A names.length names) (hcap : names.length ≤ cap) (hW : Wo w) :
    Calls Tryd.prog 12 #[.int .u64 m, .slice A names.length cap] w fun e w' => e = .returned (.bool true) ∧ Below w.heap.size w w' := by
  have hb0 : Below w.heap.size w (w.alloc (.cells #[.int .u64 m] 22)) := (Below.refl _ w).alloc (Nat.le_refl _) _
  have hr0 := Kd.C_below hr hb0
  have hc0 : (w.alloc (.cells #[.int .u64 m] 22)).cell? ⟨w.heap.size, 0, none⟩ = some (.int .u64 m) := by rw [Lib.cell_of_heap (heap_alloc_new w _)]; rfl
  have hz0 : (w.alloc (.cells #[.int .u64 m] 22)).heap.size = w.heap.size + 1 := World.size_alloc ..
  obtain ⟨f, hf⟩ : ∃ f, fitsB names = f := ⟨_, rfl⟩
  have c30 := laws_zzFits3.calls (names.length + 1) A cap names f _ hr0 hcap (by rw [fits_is, hf])
  obtain ⟨W0, hW0⟩ : ∃ W0, w.alloc (.cells #[.int .u64 m] 22) = W0 := ⟨_, rfl⟩
  have hW0' : Hid (w.alloc (.cells #[.int .u64 m] 22) = W0) := hW0
  have hb0' : Hid (Below w.heap.size w W0) := Lib.hid (by rw [← hW0]; exact hb0)
  have hr0' : Hid (Kd.C Kd.string W0 A names.length names) := Lib.hid (by rw [← hW0]; exact hr0)
  have hc0' : Hid (W0.cell? ⟨w.heap.size, 0, none⟩ = some (.int .u64 m)) := Lib.hid (by rw [← hW0]; exact hc0)
  have hz0' : Hid (W0.heap.size = w.heap.size + 1) := Lib.hid (by rw [← hW0]; exact hz0)
  have hdr : ∀ {W W' : World}, Drawn0 W W' → Below W.heap.size W W' := fun {W W'} h => by obtain ⟨n, rfl⟩ := h; exact below_drewN' (Below.refl _ _) n
  rw [hW0] at c30
  clear hb0 hr0 hc0 hz0
  cases f with
  | false =>
    clear hf hr hW
    go_enter Tryd.func12, Tryd.ntmps12
    go_wp2_with (go_at_call 30; refine c30.mono ?_; rintro e w1 ⟨rfl, hd⟩)
    go_ret
    have h1 := hdr hd
    rw [hz0'.out] at h1
    exact ⟨rfl, hb0'.out.trans (h1.mono (Nat.le_succ _))⟩
  | true =>
    have c16 := fun (W : World) (h : Kd.C Kd.string W A names.length names) => laws_encShort.calls (names.length + 1) A cap names _ W h hcap (short_is hf)
    obtain ⟨b, hb⟩ : ∃ b, decide (sumS names ≤ 65536) = b := ⟨_, rfl⟩
    rw [hb] at c16
    have hf' : Hid (fitsB names = true) := hf
    clear hf
    -- the world behind the two first calls
    have go1 : ∀ {w1 : World}, Drawn0 W0 w1 → Below W0.heap.size W0 w1 := hdr
    have hcell : ∀ {W : World}, Below W0.heap.size W0 W → W.cell? ⟨w.heap.size, 0, none⟩ = some (.int .u64 m) := fun {W} h => (h.cell (by show w.heap.size < _; rw [hz0'.out]; exact Nat.lt_succ_self _)).trans hc0'.out
    have hrow : ∀ {W : World}, Below W0.heap.size W0 W → Kd.C Kd.string W A names.length names := fun {W} h => Kd.C_below hr0'.out h
    have hfin : ∀ {W : World}, Below W0.heap.size W0 W → Below w.heap.size w W := fun {W} h => hb0'.out.trans (h.mono (by rw [hz0'.out]; exact Nat.le_succ _))
    obtain ⟨b1, hb1⟩ : ∃ x, decide ((names.length : Int) > 1000) = x := ⟨_, rfl⟩
    obtain ⟨b2, hb2⟩ : ∃ x, (m == 1) = x := ⟨_, rfl⟩
    obtain ⟨b3, hb3⟩ : ∃ x, (Go.bits .and .u64 m 2 == 0) = x := ⟨_, rfl⟩
    obtain ⟨b4, hb4⟩ : ∃ x, (m == 33652738) = x := ⟨_, rfl⟩
    by_cases hall : b = true ∧ b1 = false ∧ b2 = false ∧ b3 = false ∧ b4 = false
    · obtain ⟨rfl, rfl, rfl, rfl, rfl⟩ := hall
      go_enter Tryd.func12, Tryd.ntmps12
      go_wp2_with (first | (go_at_call 30; refine c30.mono ?_; rintro e w1 ⟨rfl, hd⟩; have h1 := go1 hd; clear c30) | (go_at_call 16; refine (c16 _ (hrow h1)).mono ?_; rintro e w2 ⟨rfl, hd2⟩; have h2 := h1.trans ((hdr hd2).mono h1.size); have hx := hcell h2; clear c16))
      have hsum : Hid (sumS names ≤ 65536) := Lib.hid (of_decide_eq_true hb)
      have hlen : Hid (names.length ≤ 1000) := Lib.hid (by have := of_decide_eq_false hb1; omega)
      have hb2' : Hid ((m == 1) = false) := hb2
      have hb3' : Hid ((Go.bits .and .u64 m 2 == 0) = false) := hb3
      clear h1 hd hd2 hx hb hb1 hb2 hb3
      go_loopg [5, 36] names.length (fun gf s5 s36 wx => ∃ i : Nat, s5 = .string (strB (pathOf (names.take i))) ∧ s36 = .int .i64 (i : Int) ∧ i ≤ names.length ∧ names.length ≤ i + gf ∧ Below W0.heap.size W0 wx)
      case atStart => exact ⟨0, rfl, rfl, Nat.zero_le _, by omega, h2⟩
      case round =>
        clear h2
        obtain ⟨i, rfl, rfl, hi, hg, HB⟩ := hrel
        have hlen' := hlen.out
        have w1 : wrap64 ((i : Int) + 1) = ((i + 1 : Nat) : Int) := w64n (k := 1) (by omega)
        have hsi := Nat.le_trans (sum_take names i) hsum.out
        have hli := pathOf_len (names.take i)
        rw [List.length_take] at hli
        by_cases hin : i < names.length
        · obtain ⟨g', rfl⟩ : ∃ g', gk = g' + 1 := ⟨gk - 1, by omega⟩
          have c1 : (i : Int) < (names.length : Int) := by omega
          obtain ⟨ad, rfl, hcx⟩ := Kd.at_string (hrow HB) (i : Int) (by omega) (by omega)
          rw [Int.toNat_natCast, show rdOf ByteArray.empty names (i : Int) = names.getD i ByteArray.empty from rfl] at hcx
          have htk := take_snoc hin
          have hgi2 : Hid (i + 1 ≤ names.length ∧ names.length ≤ i + 1 + g') := Lib.hid (by omega)
          have hxs : (names.getD i ByteArray.empty).size ≤ 65536 := by
            have h3 := Nat.le_trans (sum_take names (i + 1)) hsum.out
            rw [htk, sum_app] at h3
            have h4 : sumS [names.getD i ByteArray.empty] = (names.getD i ByteArray.empty).size := by unfold sumS; simp
            omega
          obtain ⟨x, hx⟩ : ∃ x, names.getD i ByteArray.empty = x := ⟨_, rfl⟩
          rw [hx] at hcx htk hxs
          have c15 := fun W (h : Wo W) => enc15 33652738 x W (by omega) h.tabs
          have hE : encN 33652738 x = strB (stdE x) := by unfold stdE; rw [strB_tl]
          have hEl := encN_size 33652738 x
          rw [hE, size_strB] at hEl
          rw [hE] at c15
          have hWr := hW.below (hfin HB)
          by_cases hi0 : i = 0
          · subst hi0
            have hp0 : strB (pathOf (names.take 0)) = ⟨#[]⟩ := rfl
            have hp1 : Hid (strB (pathOf (names.take (0 + 1))) = strB (stdE x)) := Lib.hid (by rw [htk]; rfl)
            have hnil : (⟨#[]⟩ : ByteArray) ++ strB (stdE x) = strB (stdE x) := by
              rw [← strB_tl ((⟨#[]⟩ : ByteArray) ++ strB (stdE x))]
              congr 1
            obtain ⟨E, hEE⟩ : ∃ E, strB (stdE x) = E := ⟨_, rfl⟩
            have hEs : E.size ≤ 12 * 65536 + 16 := by rw [← hEE, size_strB]; omega
            have y1 : (9223372036854775807 < E.size) = False := by simp; omega
            rw [hEE] at c15 hnil hp1
            rw [hp0]
            have hcx0 : wr.cell? ad = some (.string x) := by simpa [Addr.add] using hcx
            clear hp0 hcx htk hx hxs hE hEl hEE hsi hli hin hi hg hEs
            go_wp2_with (go_at_call 15; refine (c15 _ hWr).mono ?_; rintro e w3 ⟨rfl, h3⟩; have HB3 := HB.trans (h3.mono HB.size))
            go_roundg g'
            case measure => omega
            case rel => exact ⟨1, by rw [hp1.out], by simp, hgi2.out.1, hgi2.out.2, HB3⟩
          · have c2 : ((i : Int) > 0) = True := by simp; omega
            have hne : names.take i ≠ [] := by
              intro e
              have := congrArg List.length e
              rw [List.length_take] at this
              simp only [List.length_nil] at this
              omega
            have hp1 : Hid (strB (pathOf (names.take (i + 1))) = strB (pathOf (names.take i)) ++ ⟨#[47]⟩ ++ strB (stdE x)) := Lib.hid (by rw [htk, pathOf_snoc _ _ hne, strB_app])
            obtain ⟨E, hEE⟩ : ∃ E, strB (stdE x) = E := ⟨_, rfl⟩
            obtain ⟨S, hSS⟩ : ∃ S, strB (pathOf (names.take i)) = S := ⟨_, rfl⟩
            have hEs : E.size ≤ 12 * 65536 + 16 := by rw [← hEE, size_strB]; omega
            have hSs : S.size ≤ 10000000 := by rw [← hSS, size_strB]; omega
            have y1 : (9223372036854775807 < S.size + 1) = False := by simp; omega
            have y2 : (9223372036854775807 < S.size + 1 + E.size) = False := by simp; omega
            rw [hEE] at c15 hp1
            rw [hSS] at hp1 ⊢
            clear htk hx hxs hE hEl hEE hSS hsi hli hin hi hg hEs hSs hne
            go_wp2_with (go_at_call 15; refine (c15 _ hWr).mono ?_; rintro e w3 ⟨rfl, h3⟩; have HB3 := HB.trans (h3.mono HB.size))
            go_roundg g'
            case measure => omega
            case rel => exact ⟨i + 1, by rw [hp1.out], by simp, hgi2.out.1, hgi2.out.2, HB3⟩
        · have hie : i = names.length := by omega
          subst hie
          have c1 : ((names.length : Int) < (names.length : Int)) = False := by simp
          rw [List.take_length] at hli hsi ⊢
          obtain ⟨S, hSS⟩ : ∃ S, strB (pathOf names) = S := ⟨_, rfl⟩
          have hSs : S.size ≤ 1000000 := by rw [← hSS, size_strB]; simp at hli; omega
          rw [hSS]
          have hWr := hW.below (hfin HB)
          have c28 := fun W (h : Wo W) => path28 m S W (by omega) h
          have x28 := fun W (h : Wo W) => path28 m ⟨#[120]⟩ W (by decide) h
          rw [path_x] at x28
          have hT : pathF m S = strB (joined ((pieces [] (tl S)).map (frP m))) := rfl
          have hm1 : m ≠ 1 := by simpa using hb2'.out
          have hm4 : m ≠ 33652738 := by simpa using hb4
          have hb : hasB m 2 = true := by
            have h3 := hb3'.out
            unfold hasB
            rw [bne, h3]
            rfl
          have hfr : ∀ p, frP m p = tl (encN m (decN 33652738 (strB p))) := fun p => by unfold frP fromN; rw [if_neg hm4]
          have hns : ∀ q ∈ (pieces [] (tl S)).map (frP m), ∀ b ∈ q, b ≠ 47 := by
            intro q hq
            obtain ⟨p, _, rfl⟩ := List.mem_map.1 hq
            rw [hfr]
            exact enc_noslash m _ hm1 hb
          have hpj : pieces [] (tl (pathF m S)) = (pieces [] (tl S)).map (frP m) := by
            rw [hT, tl_strB]
            exact pieces_joined _ (by simp [pieces_ne]) hns
          have hK : ∀ p ∈ pieces [] (tl (pathF m S)), keptB m (strB p) = true := by
            rw [hpj]
            intro q hq
            obtain ⟨p, _, rfl⟩ := List.mem_map.1 hq
            rw [hfr, strB_tl]
            exact kept_enc m _ hm1
          have hTs : (pathF m S).size ≤ 3000000000 := by rw [hT, size_strB]; exact path_len m S (by omega)
          obtain ⟨T, hTT⟩ : ∃ T, pathF m S = T := ⟨_, rfl⟩
          rw [hTT] at hK hTs c28
          have c29 := fun (W : World) (g : Nat) (h : W.cell? ⟨w.heap.size, 0, none⟩ = some (.int .u64 m)) (h2 : W.heap[g]? = some (.cells #[.bool true] 4 (0, 0))) => each29k T h h2 (by omega) hK
          obtain ⟨J, hJ⟩ : ∃ J, strB (joined ((pieces [] (tl T)).map fun _ => [])) = J := ⟨_, rfl⟩
          simp only [hJ] at c29
          have hx := hcell HB
          clear hT hm1 hm4 hb hfr hns hpj hK hTs hTT hJ hli hsi hSS hSs hi hg hin
          go_wp2_with (first | (go_at_call 28; refine (c28 _ hWr).mono ?_; rintro e w3 ⟨rfl, h3⟩; have HB3 := HB.trans (h3.mono HB.size); clear c28; have HB4 := HB3.alloc HB3.size (.cells #[.bool true] 4); have hx4 := hcell HB4; have hg4 := heap_alloc_new w3 (.cells #[.bool true] 4)) | (go_at_call 29; refine (c29 _ _ hx4 hg4).mono ?_; rintro e w5 ⟨rfl, h5⟩; clear c29; have HB5 := HB4.trans (h5.mono HB4.size); have hx5 := hcell HB5; have hg5 := (h5.block w3.heap.size (by rw [World.size_alloc]; exact Nat.lt_succ_self _)).trans hg4; have hgc : w5.cell? ⟨w3.heap.size, 0, none⟩ = some (.bool true) := by { rw [Lib.cell_of_heap hg5]; rfl }; have hW5 := hW.below (hfin HB5)) | (go_at_call 28; refine (x28 _ hW5).mono ?_; rintro e w6 ⟨rfl, h6⟩; have HB6 := HB5.trans (h6.mono HB5.size)))
          go_ret
          exact ⟨rfl, hfin HB6⟩
    · have hall' : Hid (¬ (b = true ∧ b1 = false ∧ b2 = false ∧ b3 = false ∧ b4 = false)) := hall
      clear hall hr hW
      cases b <;> cases b1 <;> cases b2 <;> cases b3 <;> cases b4 <;> first
        | exact absurd ⟨rfl, rfl, rfl, rfl, rfl⟩ hall'.out
        | (clear hall' hb
           go_enter Tryd.func12, Tryd.ntmps12
           go_wp2_with (first | (go_at_call 30; refine c30.mono ?_; rintro e w1 ⟨rfl, hd⟩; have h1 := go1 hd; clear c30) | (go_at_call 16; refine (c16 _ (hrow h1)).mono ?_; rintro e w2 ⟨rfl, hd2⟩; have h2 := h1.trans ((hdr hd2).mono h1.size); have hx := hcell h2; clear c16))
           go_ret
           exact ⟨rfl, hfin h2⟩)
end Go.Proofs.YtonmnpmklkbioaaDoor.Given
