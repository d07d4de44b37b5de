/- 5 texts of this claim, one behind the other. -/
import Derived.Test.YtonmnpmklkbioaaDoorGg
import Derived.Test.YtonmnpmklkbioaaDoorGf
import Derived.Test.YtonmnpmklkbioaaDoorProg
import Derived.Shelf.Strings.OnBuilder
import Derived.KernelRfl
import Derived.Test.YtonmnpmklkbioaaDoorGm
import Derived.Lib.IfaceEq
import Derived.Deep.CutBlock
import Derived.Deep.RegionHeld3
import Derived.Lib.AppendStr
/- The pieces of a path between its slashes: zzIndex, zzSplit. -/
namespace Go.Proofs.YtonmnpmklkbioaaDoor.Given
open Go.RowKit Go.Proofs.YtonmnpmklkbioaaDoorW.PrintWords Go.Proofs.YtonmnpmklkbioaaDoorW.PrintLast Go.Proofs.YtonmnpmklkbioaaDoorW.PrintMore Go.Proofs.YtonmnpmklkbioaaDoor.PN
open Go.Proofs.YtonmnpmklkbioaaDoor.Pt (pieces pieces_append pieces_noslash pieces_ne joined)
open Go.Proofs.YtonmnpmklkbioaaDoor.Sy (tl strB tl_size strB_tl tl_strB dec_one extract_drop extract_take size_strB)
set_option linter.unusedVariables false
set_option linter.unusedSimpArgs false
/-- Where the first slash stands. -/
def ixN : List UInt8 → Option Nat
  | [] => none
  | b :: l => if b = 47 then some 0 else (ixN l).map (· + 1)
def ixV (l : List UInt8) : Int := match ixN l with
  | some n => (n : Int)
  | none => -1
theorem ixN_none : ∀ {l : List UInt8}, ixN l = none → ∀ b ∈ l, b ≠ 47
  | [], _, b, hb => by cases hb
  | c :: l, h, b, hb => by
    unfold ixN at h
    split at h
    · cases h
    · rename_i hc
      have h2 : ixN l = none := by simpa using h
      rcases List.mem_cons.1 hb with rfl | hb
      · exact hc
      · exact ixN_none h2 b hb
theorem ixN_some : ∀ {l : List UInt8} {n : Nat}, ixN l = some n → (∀ b ∈ l.take n, b ≠ 47) ∧ l = l.take n ++ 47 :: l.drop (n + 1) ∧ n < l.length
  | [], n, h => by cases h
  | c :: l, n, h => by
    unfold ixN at h
    split at h
    · rename_i hc
      cases h
      refine ⟨fun b hb => by simp at hb, ?_, by simp⟩
      rw [hc]; rfl
    · rename_i hc
      obtain ⟨m, hm, rfl⟩ := Option.map_eq_some_iff.1 h
      obtain ⟨h1, h2, h3⟩ := ixN_some hm
      refine ⟨fun b hb => ?_, ?_, by simpa using h3⟩
      · rw [List.take_succ_cons] at hb
        rcases List.mem_cons.1 hb with rfl | hb
        · exact hc
        · exact h1 b hb
      · rw [List.take_succ_cons, List.drop_succ_cons, List.cons_append, ← h2]
theorem ixN_drop {l : List UInt8} {i : Nat} (hi : i < l.length) (h : l.getD i 0 ≠ 47) : (ixN (l.drop i)).map (· + i) = (ixN (l.drop (i + 1))).map (· + (i + 1)) := by
  have e : l.drop i = l.getD i 0 :: l.drop (i + 1) := by
    rw [List.drop_eq_getElem_cons hi]
    simp [List.getD, hi]
  have e2 : ixN (l.getD i 0 :: l.drop (i + 1)) = (ixN (l.drop (i + 1))).map (· + 1) := by
    conv => lhs; unfold ixN
    rw [if_neg h]
  rw [e, e2, Option.map_map]
  congr 1
  funext x
  simp
  omega
theorem get_at {s : ByteArray} {i : Nat} (hi : i < s.size) : s.get! i = (tl s).getD i 0 := by
  have := Sy.getD_tl hi
  rw [← this]
  simp [List.getD, List.getElem?_drop]
set_option maxHeartbeats 2000000 in
theorem idx91 (s : ByteArray) (w : World) (hs : s.size ≤ 1000000000) :
    Calls Tryd.prog 91 #[.string s, .string ⟨#[47]⟩] w fun e w' => e = .returned (.int .i64 (ixV (tl s))) ∧ w' = w := by
  obtain ⟨V, hV⟩ : ∃ V, ixV (tl s) = V := ⟨_, rfl⟩
  have hV2 : Hid (ixV (tl s) = V) := hV
  rw [hV]
  clear hV
  go_enter Tryd.func91, Tryd.ntmps91
  go_wp2
  go_loopg [5] s.size (fun gf s5 wx => ∃ i : Nat, s5 = .int .i64 (i : Int) ∧ wx = w ∧ i ≤ s.size ∧ s.size ≤ i + gf ∧ Hid (ixN (tl s) = (ixN ((tl s).drop i)).map (· + i)))
  case atStart => exact ⟨0, rfl, rfl, Nat.zero_le _, by omega, by show _ = _; rw [List.drop_zero]; simp⟩
  case round =>
    obtain ⟨i, rfl, rfl, hi, hg, hH⟩ := hrel
    have w1 : wrap64 ((i : Int) + 1) = ((i + 1 : Nat) : Int) := w64n (k := 1) (by omega)
    by_cases hn : i < s.size
    · obtain ⟨g', rfl⟩ : ∃ g', gk = g' + 1 := ⟨gk - 1, by omega⟩
      have c1 : ((i + 1 : Nat) : Int) ≤ (s.size : Int) := by omega
      have c2 : (i : Int) ≤ ((i + 1 : Nat) : Int) := by omega
      have hx := dec_one hn
      have hgt := get_at hn
      by_cases hb : s.get! i = 47
      · have hx2 : ((s.extract i (i + 1)).toList == [47]) = true := by rw [hx, hb, Sy.tl_eq]; rfl
        have hv : ixV (tl s) = (i : Int) := by
          unfold ixV
          rw [hH.out, List.drop_eq_getElem_cons (by rw [tl_size]; exact hn)]
          have : (tl s)[i]'(by rw [tl_size]; exact hn) = 47 := by
            rw [hgt] at hb
            simpa [List.getD, tl_size, hn] using hb
          unfold ixN
          rw [if_pos this]
          simp
        have hv2 : Hid (ixV (tl s) = (i : Int)) := hv
        clear hH hv hx hb hgt
        go_wp2
        go_ret
        exact ⟨congrArg (fun v => Ending.returned (Value.int .i64 v)) (hv2.out.symm.trans hV2.out), rfl⟩
      · have hx2 : ((s.extract i (i + 1)).toList == [47]) = false := by
          rw [hx, beq_eq_false_iff_ne]
          intro e
          apply hb
          have : (⟨#[s.get! i]⟩ : ByteArray).toList = [s.get! i] := Sy.tl_eq _
          rw [this] at e
          exact (List.cons.inj e).1
        have hd := ixN_drop (l := tl s) (i := i) (by rw [tl_size]; exact hn) (by rw [← hgt]; exact hb)
        have hH2 : Hid (ixN (tl s) = (ixN ((tl s).drop (i + 1))).map (· + (i + 1))) := hH.out.trans hd
        clear hH hx hb hgt hd
        go_wp2
        go_roundg g'
        case measure => omega
        case rel => exact ⟨i + 1, by simp, rfl, by omega, by omega, hH2⟩
    · have c1 : (((i + 1 : Nat) : Int) ≤ (s.size : Int)) = False := by simp; omega
      have hv : ixV (tl s) = -1 := by
        unfold ixV
        rw [hH.out, List.drop_eq_nil_of_le (by rw [tl_size]; omega)]
        rfl
      have hv2 : Hid (ixV (tl s) = -1) := hv
      clear hH hv
      go_wp2
      go_ret
      exact ⟨congrArg (fun v => Ending.returned (Value.int .i64 v)) (hv2.out.symm.trans hV2.out), rfl⟩
theorem info9 : (Tryd.prog.info? 9).map (fun i => (i.zero, i.size, i.bytes)) = some (some (.string ⟨#[]⟩), 1, 16) := by kernel_rfl
/-- A piece as a text. -/
def encP (p : List UInt8) : Value := .string (strB p)
set_option maxHeartbeats 4000000 in
set_option maxRecDepth 100000 in
theorem split83 (s : ByteArray) (w : World) (hs : s.size ≤ 1000000000) :
    Calls Tryd.prog 83 #[.string s, .string ⟨#[47]⟩] w fun e w' => ∃ v, e = .returned v ∧ w'.ownsRow w.heap.size 9 1 v (pieces [] (tl s)).length (encs encP (pieces [] (tl s))) ∧ Below w.heap.size w w' := by
  obtain ⟨P, hP⟩ : ∃ P, pieces [] (tl s) = P := ⟨_, rfl⟩
  have hP' : Hid (pieces [] (tl s) = P) := hP
  rw [hP]
  clear hP
  go_enter Tryd.func83, Tryd.ntmps83
  go_wp2
  go_loopg [0, 5] (s.size + 1) (fun gf s0 s5 wx => ∃ (l : List UInt8) (L : List (List UInt8)), s0 = .string (strB l) ∧ wx.ownsRow w.heap.size 9 1 s5 L.length (encs encP L) ∧ Below w.heap.size w wx ∧ Hid (L ++ pieces [] l = P) ∧ l.length < gf ∧ L.length + l.length ≤ s.size)
  case atStart => exact ⟨tl s, [], by rw [strB_tl], own_nil _ _ _ _, Below.refl _ _, hP'.out, by rw [tl_size]; omega, by rw [tl_size]; simp⟩
  case round =>
    obtain ⟨l, L, rfl, HO, HB, hH, hg, hl⟩ := hrel
    clear hP'
    obtain ⟨g', rfl⟩ : ∃ g', gk = g' + 1 := ⟨gk - 1, by omega⟩
    have c91 := fun W => idx91 (strB l) W (by rw [size_strB]; omega)
    rw [tl_strB] at c91
    have hsl := size_strB l
    have hbase := HB.size
    cases hi : ixN l with
    | none =>
      have hv : ixV l = -1 := by unfold ixV; rw [hi]
      have hpl := pieces_noslash l [] (ixN_none hi)
      rw [hv] at c91
      rw [hpl] at hH
      have hH2 : Hid (L ++ [l] = P) := hH
      have hll : Hid (L.length ≤ 1000000000) := Lib.hid (by omega)
      clear hH hpl hv hi hsl hg hl
      go_wp2_with (first | (go_at_call 91; refine (c91 _).mono ?_; rintro e w1 ⟨rfl, rfl⟩; clear c91) | ((with_reducible refine gate_builtin (b := .append) (xs := #[.tmp 42, .tmp 44]) rfl ?_); at_builtin; refine print_append_of (w0 := w) encP w.heap.size rfl (.tmp 42) (.tmp 44) 40 9 (.string ⟨#[]⟩) 16 rfl Tryd.underlying40 info9 rfl (by decide) u5 L l rfl rfl rfl HO HB hbase (by have := hll.out; omega) ?_; intro v1 w1 HO1 HB1 hg1 hat1))
      go_ret
      refine ⟨_, rfl, ?_, HB1⟩
      rw [hH2.out] at HO1
      exact HO1
    | some n =>
      have hv : ixV l = (n : Int) := by unfold ixV; rw [hi]
      obtain ⟨h1, h2, h3⟩ := ixN_some hi
      have hpl := pieces_append (l.take n) [] (l.drop (n + 1)) h1
      rw [← h2, List.nil_append] at hpl
      rw [hv] at c91
      rw [hpl] at hH
      have hH2 : Hid ((L ++ [l.take n]) ++ pieces [] (l.drop (n + 1)) = P) := Lib.hid (by rw [List.append_assoc]; exact hH.out)
      have e1 := extract_take (strB l) n
      have e2 := extract_drop (strB l) (n + 1)
      rw [tl_strB] at e1 e2
      have hll : Hid (L.length ≤ 1000000000) := Lib.hid (by omega)
      have hl2 : Hid ((l.drop (n + 1)).length < g' ∧ (L ++ [l.take n]).length + (l.drop (n + 1)).length ≤ s.size) := Lib.hid (by rw [List.length_append, List.length_drop, List.length_singleton]; omega)
      have wn : wrap64 ((n : Int) + 1) = ((n + 1 : Nat) : Int) := w64n (k := 1) (by omega)
      have k1 : (n : Int) ≤ ((strB l).size : Int) := by rw [hsl]; omega
      have k2 : ((n + 1 : Nat) : Int) ≤ ((strB l).size : Int) := by rw [hsl]; omega
      have k3 : (0 : Int) ≤ (n : Int) := by omega
      have k4 : ((n : Int) < 0) = False := by simp
      have k5 : (0 : Int) ≤ ((n + 1 : Nat) : Int) := by omega
      obtain ⟨S, hS⟩ : ∃ S, strB l = S := ⟨_, rfl⟩
      rw [hS] at c91 e1 e2 k1 k2 ⊢
      clear hH hpl hv hi hsl hg hl hS h1 h2 h3
      go_wp2_with (first | (go_at_call 91; refine (c91 _).mono ?_; rintro e w1 ⟨rfl, rfl⟩; clear c91) | ((with_reducible refine gate_builtin (b := .append) (xs := #[.tmp 46, .tmp 50]) rfl ?_); at_builtin; refine print_append_of (w0 := w) encP w.heap.size rfl (.tmp 46) (.tmp 50) 40 9 (.string ⟨#[]⟩) 16 rfl Tryd.underlying40 info9 rfl (by decide) u5 L (l.take n) rfl rfl rfl HO HB hbase (by have := hll.out; omega) ?_; intro v1 w1 HO1 HB1 hg1 hat1))
      go_roundg g'
      case measure => omega
      case rel => exact ⟨l.drop (n + 1), L ++ [l.take n], rfl, HO1, HB1, hH2, hl2.out.1, hl2.out.2⟩
end Go.Proofs.YtonmnpmklkbioaaDoor.Given
/- strings.Join laid at this program. -/
namespace Go.Proofs.YtonmnpmklkbioaaDoor.Laid
open Go.Shelf Go.RowKit
set_option maxRecDepth 100000
def L_n156_ren : Go.Shelf.Ren := ⟨fun | 156 => 84 | 165 => 92 | 166 => 93 | 169 => 94 | 240 => 102 | 241 => 103 | 276 => 107 | 277 => 108 | n => n, fun | 31 => 40 | 37 => 23 | 70 => 111 | 72 => 113 | 75 => 74 | 76 => 75 | 127 => 120 | 164 => 125 | n => n, fun n => n⟩
theorem L_n156 : Lays.n156 Tryd.prog L_n156_ren := {
  mixed := by kernel_rfl
  f156 := by kernel_rfl
  f165 := by kernel_rfl
  f166 := by kernel_rfl
  f169 := by kernel_rfl
  f240 := by kernel_rfl
  f241 := by kernel_rfl
  f276 := by kernel_rfl
  f277 := by kernel_rfl
  t0 := by kernel_rfl
  a0 := fun _ => by kernel_rfl
  z0 := fun _ => by kernel_rfl
  v0 := fun _ => by kernel_rfl
  t3 := by kernel_rfl
  a3 := fun _ => by kernel_rfl
  z3 := fun _ => by kernel_rfl
  v3 := fun _ => by kernel_rfl
  t4 := by kernel_rfl
  a4 := fun _ => by kernel_rfl
  z4 := fun _ => by kernel_rfl
  v4 := fun _ => by kernel_rfl
  t9 := by kernel_rfl
  a9 := fun _ => by kernel_rfl
  z9 := fun _ => by kernel_rfl
  v9 := fun _ => by kernel_rfl
  t20 := by kernel_rfl
  a20 := fun _ => by kernel_rfl
  z20 := fun _ => by kernel_rfl
  v20 := fun _ => by kernel_rfl
  t31 := by kernel_rfl
  a31 := fun _ => by kernel_rfl
  z31 := fun _ => by kernel_rfl
  v31 := fun _ => by kernel_rfl
  t37 := by kernel_rfl
  a37 := fun _ => by kernel_rfl
  z37 := fun _ => by kernel_rfl
  v37 := fun _ => by kernel_rfl
  t70 := by kernel_rfl
  a70 := fun _ => by kernel_rfl
  z70 := fun _ => by kernel_rfl
  v70 := fun _ => by kernel_rfl
  t72 := by kernel_rfl
  a72 := fun _ => by kernel_rfl
  z72 := fun _ => by kernel_rfl
  v72 := fun _ => by kernel_rfl
  t75 := by kernel_rfl
  a75 := fun _ => by kernel_rfl
  z75 := fun _ => by kernel_rfl
  v75 := fun _ => by kernel_rfl
  t76 := by kernel_rfl
  a76 := fun _ => by kernel_rfl
  z76 := fun _ => by kernel_rfl
  v76 := fun _ => by kernel_rfl
  t127 := by kernel_rfl
  a127 := fun _ => by kernel_rfl
  z127 := fun _ => by kernel_rfl
  v127 := fun _ => by kernel_rfl
  t164 := by kernel_rfl
  a164 := fun _ => by kernel_rfl
  z164 := fun _ => by kernel_rfl
  v164 := fun _ => by kernel_rfl }
theorem L_bx : Builder.Extra Tryd.prog L_n156_ren := {
  sizeBuilder := by kernel_rfl
  liesBuilder := by kernel_rfl
  t5 := by kernel_rfl
  a5 := fun _ => by kernel_rfl
  z5 := fun _ => by kernel_rfl
  v5 := fun _ => by kernel_rfl
  infoByte := by kernel_rfl
  cellsByte := by kernel_rfl
  sizeByte := by kernel_rfl
  neB5 := by decide }
/-- strings.Join over a row of texts. -/
theorem join84 (bk o c : Nat) (xs : List ByteArray) (sep : ByteArray) (w : World) (hcells : ∀ (j : Nat) x, xs[j]? = some x → w.cell? ⟨bk, o + j, none⟩ = some (.string x)) (hbk : bk < w.heap.size) (hN : xs.length ≤ 140737488355328) (hcap : xs.length ≤ c)
    (hlen : (Lib.join (xs.map (·.data.toList)) sep.data.toList).length ≤ 140737488355328) :
    Calls Tryd.prog 84 #[.slice (some ⟨bk, o, none⟩) xs.length c, .string sep] w fun e w' => e = .returned (.string ⟨(Lib.join (xs.map (·.data.toList)) sep.data.toList).toArray⟩) ∧ Below w.heap.size w w' :=
  Any.strings_Join L_n156 L_bx bk o c xs sep w hcells hbk hN hcap hlen
end Go.Proofs.YtonmnpmklkbioaaDoor.Laid
/- A name from Standard's writing: the steps of FromStandardName. -/
namespace Go.Proofs.YtonmnpmklkbioaaDoor.Given
open Go.RowKit Go.Proofs.YtonmnpmklkbioaaDoorW.PrintWords Go.Proofs.YtonmnpmklkbioaaDoorW.PrintLast Go.Proofs.YtonmnpmklkbioaaDoorW.PrintMore Go.Proofs.YtonmnpmklkbioaaDoor.PN
open Go.Proofs.YtonmnpmklkbioaaDoor.Pt (Ch Tk flat chars Pr decC dleft dright dmid undotC unq qt lsign)
open Go.Proofs.YtonmnpmklkbioaaDoor.Sy (tl strB tl_size strB_tl tl_strB tkm tkm_ok hasB ErrOk dmidA)
set_option linter.unusedVariables false
set_option linter.unusedSimpArgs false
theorem dright_snoc2 (k : Tk) (M : List Ch) (c : Ch) : dright k (M ++ [c]) = match lsign k.r c with
    | none => (M ++ [c], [])
    | some a => if M.getLast? = some qt then (M.dropLast, [c]) else (M, [.g a]) := by
  unfold dright
  rw [List.getLast?_concat]
  dsimp only
  rw [List.dropLast_concat]
  cases lsign k.r c <;> rfl
theorem dright_len2 (k : Tk) (R : List Ch) : (dright k R).1.length ≤ R.length ∧ (dright k R).2.length ≤ 1 := by
  by_cases hR : R = []
  · subst hR; exact ⟨Nat.le_refl _, Nat.zero_le _⟩
  · obtain ⟨M, c, rfl⟩ : ∃ M c, R = M ++ [c] := ⟨R.dropLast, R.getLast hR, (List.dropLast_concat_getLast hR).symm⟩
    rw [dright_snoc2]
    split
    · exact ⟨Nat.le_refl _, Nat.zero_le _⟩
    · split
      · exact ⟨by simp; omega, Nat.le_refl _⟩
      · exact ⟨by simp, Nat.le_refl _⟩
theorem dleft_len2 (k : Tk) (L : List Ch) : (dleft k L).2.length ≤ L.length ∧ (dleft k L).1.length ≤ 1 := by
  cases L with
  | nil => exact ⟨Nat.le_refl _, Nat.zero_le _⟩
  | cons c L =>
    rw [Pt.dleft_cons]
    split
    · exact ⟨by simp, Nat.le_refl _⟩
    · cases L with
      | nil => exact ⟨Nat.le_refl _, Nat.zero_le _⟩
      | cons d L =>
        dsimp only
        split
        · exact ⟨by simp; omega, Nat.le_refl _⟩
        · exact ⟨Nat.le_refl _, Nat.zero_le _⟩
theorem dmid_len (k : Tk) : ∀ (f : Nat) (L : List Ch), (dmid k f L).length ≤ f
  | 0, _ => Nat.le_refl _
  | f + 1, [] => Nat.zero_le _
  | f + 1, c :: L => by
    show (if c = qt then (unq k L).1 :: dmid k f (L.drop ((unq k L).2 - 1)) else (match lsign k.t c with | some a => Ch.g a | none => c) :: dmid k f L).length ≤ f + 1
    split
    · rw [List.length_cons]; exact Nat.succ_le_succ (dmid_len k f _)
    · rw [List.length_cons]; exact Nat.succ_le_succ (dmid_len k f _)
theorem dec_len (k : Tk) (L : List Ch) : (decC k L).length ≤ L.length + 2 := by
  have h1 := dleft_len2 k L
  have h2 := dright_len2 k (dleft k L).2
  have h3 := dmid_len k (dright k (dleft k L).2).1.length (dright k (dleft k L).2).1
  have hd : ∀ t, undotC k L = some t → t.length ≤ 2 := by
    intro t ht
    unfold undotC at ht
    split at ht
    · split at ht
      · cases ht; simp
      · split at ht
        · cases ht; simp
        · split at ht
          · cases ht; simp
          · split at ht
            · cases ht; simp
            · cases ht
    · cases ht
  unfold decC
  cases hu : undotC k L with
  | some t => exact Nat.le_trans (hd t hu) (by omega)
  | none =>
    dsimp only
    rw [List.length_append, List.length_append]
    omega
theorem decN_size (m : Int) (s : ByteArray) : (decN m s).size ≤ 4 * s.size + 8 := by
  unfold decN
  split
  · omega
  · have h1 := dec_len (tkm m) (chars (tl s))
    have h2 := flat_len (decC (tkm m) (chars (tl s)))
    have h3 := chars_len (tl s)
    have h4 := tl_size s
    have h5 : (strB (flat (decC (tkm m) (chars (tl s))))).size = _ := Sy.size_strB _
    omega
theorem na43 (m : Int) (w : World) : (nilAhead 264 43 (.int .u64 m) "Encode").run Tryd.prog w = .ok (some false) w := by kernel_rfl
theorem m43 (m : Int) (w : World) : (method 264 43 (.int .u64 m) "Encode").run Tryd.prog w = .ok (35, .int .u64 m) w := by kernel_rfl
/-- The name from Standard's writing. -/
def fromN (m : Int) (s : ByteArray) : ByteArray := if m = 33652738 then s else encN m (decN 33652738 s)
set_option maxHeartbeats 2000000 in
set_option maxRecDepth 100000 in
theorem from49 (m : Int) (s : ByteArray) (w : World) (hs : s.size ≤ 100000000) (hW : Wo w) :
    Calls Tryd.prog 49 #[.iface 43 (.int .u64 m), .string s] w fun e w' => e = .returned (.string (fromN m s)) ∧ Below w.heap.size w w' := by
  by_cases hm : m = 33652738
  · have e : fromN m s = s := by unfold fromN; rw [if_pos hm]
    rw [e]
    subst hm
    have heq := fun (W : World) => Lib.run_eql_iface_int (P := Tryd.prog) W (t := 58) (tx := 43) (k := .u64) 33652738 33652738 Tryd.underlying58 (by kernel_rfl) Tryd.underlying43
    rw [show ((33652738 : Int) == 33652738) = true from rfl] at heq
    go_enter Tryd.func49, Tryd.ntmps49
    go_wp2
    go_ret
    exact ⟨rfl, Below.refl _ _⟩
  · have e : fromN m s = encN m (decN 33652738 s) := by unfold fromN; rw [if_neg hm]
    have hm1 : (m == 33652738) = false := by rw [beq_eq_false_iff_ne]; exact hm
    rw [e]
    have heq := fun (W : World) => Lib.run_eql_iface_int (P := Tryd.prog) W (t := 58) (tx := 43) (k := .u64) m 33652738 Tryd.underlying58 (by kernel_rfl) Tryd.underlying43
    rw [hm1] at heq
    have c44 := fun W (h : Wo W) => Sy.calls44 33652738 s W (by omega) h.tabs h.err
    have c35 := fun W (h : Wo W) => Sy.calls35 m (decN 33652738 s) W (by have := decN_size 33652738 s; omega) h.tabs
    rw [decO_is] at c44
    rw [encO_is] at c35
    obtain ⟨t, ht⟩ : ∃ t, decN 33652738 s = t := ⟨_, rfl⟩
    rw [ht] at c44 c35 ⊢
    obtain ⟨u, hu⟩ : ∃ u, encN m t = u := ⟨_, rfl⟩
    rw [hu] at c35 ⊢
    have hna := na43 m
    have hmm := m43 m
    have hd1 : Below w.heap.size w w.drew := below_drewN' (Below.refl _ _) 1
    have hWd : Wo w.drew := hW.below hd1
    clear ht hu e hm
    go_enter Tryd.func49, Tryd.ntmps49
    go_upto_region 3 with fail
    refine wp_region_noPanic ?_
    refine wp_region_held_drew (S := (fun _ => True)) (by kernel_rfl) ?h1 (fun hHeld => ?k1)
    case h1 => ((try dsimp only); all_goals trivial)
    refine wpAnyH_take (i := 0) (oi := { dst := some 9, op := Go.Op.move (Go.Operand.tmp 0), type := 58, pos := "encoder.go:1315", after := #[], guard := none }) (v := ?v2) rfl (by kernel_rfl) (by kernel_rfl) (by kernel_rfl) (fun _ _ _ h => h) (Or.inl ⟨by rfl, ?y2⟩) (by assumption) ?r2
    case y2 => (intro w hSw; (try dsimp only at hSw); first | (go_simp; done) | (go_simp; with_reducible rfl))
    try simp only [Act.put, List.setIfInBounds_toArray, List.set_cons_zero, List.set_cons_succ]
    refine wpAnyH_take (i := 1) (oi := { dst := some 10, op := Go.Op.move (Go.Operand.tmp 1), type := 9, pos := "encoder.go:1315", after := #[], guard := none }) (v := ?v3) rfl (by kernel_rfl) (by kernel_rfl) (by kernel_rfl) (fun _ _ _ h => h) (Or.inl ⟨by rfl, ?y3⟩) (by assumption) ?r3
    case y3 => (intro w hSw; (try dsimp only at hSw); first | (go_simp; done) | (go_simp; with_reducible rfl))
    try simp only [Act.put, List.setIfInBounds_toArray, List.set_cons_zero, List.set_cons_succ]
    refine wpAnyH_take (i := 3) (oi := { dst := some 12, op := Go.Op.makeFunc (Go.Fn.method "Encode") #[Go.Operand.tmp 9] #[], type := 38, pos := "encoder.go:1315", after := #[{ on := 0, ground := Go.Ground.data }], guard := none }) (v := ?v4) rfl (by kernel_rfl) (by kernel_rfl) (by kernel_rfl) (fun _ _ _ h => h) (Or.inl ⟨by rfl, ?y4⟩) (by assumption) ?r4
    case y4 => (intro w hSw; (try dsimp only at hSw); first | (go_simp; done) | (go_simp; with_reducible rfl))
    try simp only [Act.put, List.setIfInBounds_toArray, List.set_cons_zero, List.set_cons_succ]
    refine wpAnyH_take (i := 4) (oi := { dst := some 13, op := Go.Op.nilCheck (Go.Operand.tmp 12), type := 38, pos := "encoder.go:1315", after := #[{ on := 3, ground := Go.Ground.data }], guard := none }) (v := ?v5) rfl (by kernel_rfl) (by kernel_rfl) (by kernel_rfl) (fun _ _ _ h => h) (Or.inl ⟨by rfl, ?y5⟩) (by assumption) ?r5
    case y5 => (intro w hSw; (try dsimp only at hSw); first | (go_simp; done) | (go_simp; with_reducible rfl))
    try simp only [Act.put, List.setIfInBounds_toArray, List.set_cons_zero, List.set_cons_succ]
    refine wpAnyH_take (i := 5) (oi := { dst := some 14, op := Go.Op.move (Go.Operand.tmp 9), type := 58, pos := "encoder.go:1315", after := #[{ on := 0, ground := Go.Ground.data }, { on := 3, ground := Go.Ground.data }, { on := 4, ground := Go.Ground.data }], guard := none }) (v := ?v6) rfl (by kernel_rfl) (by kernel_rfl) (by kernel_rfl) (fun _ _ _ h => h) (Or.inl ⟨by rfl, ?y6⟩) (by assumption) ?r6
    case y6 => (intro w hSw; (try dsimp only at hSw); first | (go_simp; done) | (go_simp; with_reducible rfl))
    try simp only [Act.put, List.setIfInBounds_toArray, List.set_cons_zero, List.set_cons_succ]
    refine wpAnyH_ready (rs := [2]) (by kernel_rfl) (by simp) ?_
    refine AllReadyH.cons (o := { dst := some 11, op := Go.Op.call { callee := Go.Callee.value (Go.Operand.func 44), args := #[Go.Operand.const (Go.Value.int Go.IntKind.u64 33652738), Go.Operand.tmp 10], argTypes := #[43, 9] }, type := 9, pos := "encoder.go:1315", after := #[{ on := 1, ground := Go.Ground.data }], guard := none }) rfl (fun K hK => ?s7) ?m7
    case m7 => exact AllReadyH.nil
    go_simp; go_at_call 44; refine (c44 _ hWd).mono ?_; rintro e w1 ⟨rfl, h1⟩; have g1 := hWd.below h1
    refine hK.out _ _ ?h7 (fun hHeld => ?k7)
    case h7 => ((try dsimp only); all_goals trivial)
    clear hK K
    try simp only [Act.put, List.setIfInBounds_toArray, List.set_cons_zero, List.set_cons_succ]
    refine wpAnyH_ready (rs := [6]) (by kernel_rfl) (by simp) ?_
    refine AllReadyH.cons (o := { dst := some 15, op := Go.Op.call { callee := Go.Callee.invoke (Go.Operand.tmp 14) "Encode", args := #[Go.Operand.tmp 11], argTypes := #[9] }, type := 9, pos := "encoder.go:1315", after := #[{ on := 5, ground := Go.Ground.data }, { on := 2, ground := Go.Ground.data }, { on := 2, ground := Go.Ground.chain }], guard := none }) rfl (fun K hK => ?s8) ?m8
    case m8 => exact AllReadyH.nil
    go_simp; go_at_call 35; refine (c35 _ g1).mono ?_; rintro e w2 ⟨rfl, h2⟩
    refine hK.out _ _ ?h8 (fun hHeld => ?k8)
    case h8 => ((try dsimp only); all_goals trivial)
    clear hK K
    try simp only [Act.put, List.setIfInBounds_toArray, List.set_cons_zero, List.set_cons_succ]
    refine wpAnyH_take (i := 7) (oi := { dst := some 4, op := Go.Op.assign (Go.Operand.tmp 15), type := 9, pos := "encoder.go:1315", after := #[{ on := 6, ground := Go.Ground.data }, { on := 6, ground := Go.Ground.chain }, { on := 0, ground := Go.Ground.phase }, { on := 1, ground := Go.Ground.phase }, { on := 2, ground := Go.Ground.phase }, { on := 3, ground := Go.Ground.phase }, { on := 4, ground := Go.Ground.phase }, { on := 5, ground := Go.Ground.phase }, { on := 6, ground := Go.Ground.phase }], guard := none }) (v := ?v9) rfl (by kernel_rfl) (by kernel_rfl) (by kernel_rfl) (fun _ _ _ h => h) (Or.inl ⟨by rfl, ?y9⟩) (by assumption) ?r9
    case y9 => (intro w hSw; (try dsimp only at hSw); first | (go_simp; done) | (go_simp; with_reducible rfl))
    try simp only [Act.put, List.setIfInBounds_toArray, List.set_cons_zero, List.set_cons_succ]
    refine wpAnyH_done (by kernel_rfl) ?_ _
    refine NoPanic.normal ?_
    go_wp2
    go_ret
    have k1 := hd1.trans (h1.mono hd1.size)
    exact ⟨rfl, k1.trans (h2.mono k1.size)⟩
end Go.Proofs.YtonmnpmklkbioaaDoor.Given
/- FromStandardPath: the pieces of a path, each changed. -/
namespace Go.Proofs.YtonmnpmklkbioaaDoor.Given
open Go.RowKit Go.Proofs.YtonmnpmklkbioaaDoorW.PrintWords Go.Proofs.YtonmnpmklkbioaaDoorW.PrintLast Go.Proofs.YtonmnpmklkbioaaDoorW.PrintMore Go.Proofs.YtonmnpmklkbioaaDoor.PN
open Go.Proofs.YtonmnpmklkbioaaDoor.Pt (pieces pieces_ne pieces_len pieces_sum joined joined_pieces joined_cons joined_len)
open Go.Proofs.YtonmnpmklkbioaaDoor.Sy (tl strB tl_size strB_tl tl_strB size_strB)
set_option linter.unusedVariables false
set_option linter.unusedSimpArgs false
/-- A path, its pieces changed. -/
def pathN (f : ByteArray → ByteArray) (s : ByteArray) : ByteArray := strB (joined ((pieces [] (tl s)).map fun p => tl (f (strB p))))
theorem pathN_id {f : ByteArray → ByteArray} {s : ByteArray} (h : ∀ p ∈ pieces [] (tl s), tl (f (strB p)) = p) : pathN f s = s := by
  unfold pathN
  have : (pieces [] (tl s)).map (fun p => tl (f (strB p))) = pieces [] (tl s) := by
    conv => rhs; rw [← List.map_id (pieces [] (tl s))]
    exact List.map_congr_left h
  rw [this, joined_pieces, List.nil_append, strB_tl]
theorem join_joined : ∀ L : List (List UInt8), Lib.join L [47] = joined L
  | [] => rfl
  | [p] => by rw [Lib.join_one]; rfl
  | p :: q :: L => by
    have ih := join_joined (q :: L)
    unfold Lib.join at ih ⊢
    rw [joined_cons p (List.cons_ne_nil _ _), ← ih]
    simp [List.intercalate]
/-- The row that is being made: the first i are changed already. -/
def rowE (P : List (List UInt8)) (F : List UInt8 → List UInt8) (i : Nat) : List (List UInt8) := (P.take i).map F ++ List.replicate (P.length - i) []
theorem rowE_zero (P : List (List UInt8)) (F : List UInt8 → List UInt8) : rowE P F 0 = List.replicate P.length [] := rfl
theorem rowE_all (P : List (List UInt8)) (F : List UInt8 → List UInt8) : rowE P F P.length = P.map F := by unfold rowE; simp
theorem rowE_set {P : List (List UInt8)} {F : List UInt8 → List UInt8} {i : Nat} (hi : i < P.length) : (rowE P F i).set i (F (P.getD i [])) = rowE P F (i + 1) := by
  have hx : P.getD i [] = P[i] := by simp [List.getD, hi]
  rw [hx]
  unfold rowE
  have hl : ((P.take i).map F).length = i := by simp; omega
  rw [List.set_append_right _ _ (by omega), hl, Nat.sub_self, show P.length - i = (P.length - (i + 1)) + 1 by omega, List.replicate_succ, List.set_cons_zero, List.take_succ_eq_append_getElem hi, List.map_append]
  simp
/-- One of the first i is changed. -/
def chP (P : List (List UInt8)) (F : List UInt8 → List UInt8) (i : Nat) : Bool := (P.take i).any fun p => tl (strB (F p)) != p
theorem chP_succ {P : List (List UInt8)} {F : List UInt8 → List UInt8} {i : Nat} (hi : i < P.length) : chP P F (i + 1) = (chP P F i || (F (P.getD i []) != P.getD i [])) := by
  have hx : P.getD i [] = P[i] := by simp [List.getD, hi]
  rw [hx]
  unfold chP
  rw [List.take_succ_eq_append_getElem hi, List.any_append]
  simp [tl_strB]
theorem chP_no {P : List (List UInt8)} {F : List UInt8 → List UInt8} (h : chP P F P.length = false) : ∀ p ∈ P, F p = p := by
  unfold chP at h
  rw [List.take_length, List.any_eq_false] at h
  intro p hp
  have := h p hp
  rw [tl_strB] at this
  simpa using this
theorem tl_app (a b : ByteArray) : tl (a ++ ⟨#[47]⟩ ++ b) = tl a ++ 47 :: tl b := by
  show (a ++ ⟨#[47]⟩ ++ b).data.toList = _
  simp [tl]
theorem strB_app (a b : List UInt8) : strB (a ++ 47 :: b) = strB a ++ ⟨#[47]⟩ ++ strB b := by
  have h : tl (strB (a ++ 47 :: b)) = tl (strB a ++ ⟨#[47]⟩ ++ strB b) := by rw [tl_app, tl_strB, tl_strB, tl_strB]
  rw [← strB_tl (strB (a ++ 47 :: b)), h, strB_tl]
/-- What becomes of a piece. -/
def frP (m : Int) (p : List UInt8) : List UInt8 := tl (fromN m (strB p))
theorem frP_len (m : Int) (p : List UInt8) : (frP m p).length ≤ 48 * p.length + 200 := by
  unfold frP
  rw [tl_size]
  unfold fromN
  split
  · rw [size_strB]; omega
  · have h1 := decN_size 33652738 (strB p)
    have h2 := encN_size m (decN 33652738 (strB p))
    rw [size_strB] at h1
    omega
theorem strB_toList (l : List UInt8) : (strB l).toList = l := by rw [Sy.tl_eq]; exact tl_strB l
theorem path_len (m : Int) (s : ByteArray) (hs : s.size ≤ 10000000) : (joined ((pieces [] (tl s)).map (frP m))).length ≤ 3000000000 := by
  have hpl := pieces_len (tl s) []
  have hps := pieces_sum (tl s) []
  rw [tl_size] at hpl hps
  have h1 := joined_len ((pieces [] (tl s)).map (frP m))
  have h2 : ∀ Q : List (List UInt8), ((Q.map (frP m)).map List.length).sum ≤ 48 * (Q.map List.length).sum + 200 * Q.length := by
    intro Q
    induction Q with
    | nil => simp
    | cons q Q ih =>
      have := frP_len m q
      simp only [List.map_cons, List.sum_cons, List.length_cons]
      omega
  have h3 := h2 (pieces [] (tl s))
  rw [List.length_map] at h1
  simp only [List.length_nil, Nat.zero_add] at hps
  omega
set_option maxHeartbeats 8000000 in
set_option maxRecDepth 100000 in
theorem path73 (m : Int) (s : ByteArray) (w : World) (hs : s.size ≤ 10000000) (hW : Wo w) (hm : m ≠ 33652738) :
    Calls Tryd.prog 73 #[.iface 43 (.int .u64 m), .string s] w fun e w' => e = .returned (.string (strB (joined ((pieces [] (tl s)).map (frP m))))) ∧ Below w.heap.size w w' := by
  have hm1 : (m == 33652738) = false := by rw [beq_eq_false_iff_ne]; exact hm
  have heq := fun (W : World) => Lib.run_eql_iface_int (P := Tryd.prog) W (t := 58) (tx := 43) (k := .u64) m 33652738 Tryd.underlying58 (by kernel_rfl) Tryd.underlying43
  rw [hm1] at heq
  have c83 := fun W => split83 s W (by omega)
  have hpn : pieces [] (tl s) ≠ [] := pieces_ne _ _
  have hpl := pieces_len (tl s) []
  have hps := pieces_sum (tl s) []
  rw [tl_size] at hpl hps
  have hid : (∀ p ∈ pieces [] (tl s), frP m p = p) → strB (joined ((pieces [] (tl s)).map (frP m))) = s := by
    intro h
    have : (pieces [] (tl s)).map (frP m) = pieces [] (tl s) := by
      conv => rhs; rw [← List.map_id (pieces [] (tl s))]
      exact List.map_congr_left h
    rw [this, joined_pieces, List.nil_append, strB_tl]
  have hjl := path_len m s hs
  obtain ⟨P, hP⟩ : ∃ P, pieces [] (tl s) = P := ⟨_, rfl⟩
  rw [hP] at c83 hpn hpl hps hid hjl ⊢
  clear hP
  have c49 := fun W (p : List UInt8) (hp : p.length ≤ 100000000) (h : Wo W) => from49 m (strB p) W (by rw [size_strB]; omega) h
  have hfr : ∀ p, fromN m (strB p) = strB (frP m p) := fun p => by unfold frP; rw [strB_tl]
  simp only [hfr] at c49
  have hel : ∀ p ∈ P, p.length ≤ 10000000 := by
    intro p hp
    have : ∀ Q : List (List UInt8), p ∈ Q → p.length ≤ (Q.map List.length).sum := by
      intro Q
      induction Q with
      | nil => intro h; cases h
      | cons q Q ih =>
        intro h
        simp only [List.map_cons, List.sum_cons]
        rcases List.mem_cons.1 h with rfl | h
        · omega
        · have := ih h; omega
    have := this P hp
    simp at hps
    omega
  obtain ⟨F, hF⟩ : ∃ F, frP m = F := ⟨_, rfl⟩
  rw [hF] at c49 hjl hid ⊢
  clear hF hfr hps
  obtain ⟨n, hn⟩ : ∃ n, P.length = n := ⟨_, rfl⟩
  have hn2 : Hid (P.length = n) := hn
  have hn0 : Hid (0 < n) := Lib.hid (by rw [← hn]; exact List.length_pos_iff.2 hpn)
  have hn1 : Hid (n ≤ 10000001) := Lib.hid (by omega)
  rw [hn] at c83
  have hid2 : Hid ((∀ p ∈ P, F p = p) → strB (joined (P.map F)) = s) := hid
  have hjl2 : Hid ((joined (P.map F)).length ≤ 3000000000) := hjl
  have hel2 : Hid (∀ p ∈ P, p.length ≤ 10000000) := hel
  clear hn hpn hpl hid hjl hel hs hm1 hm
  obtain ⟨R, hR⟩ : ∃ R, strB (joined (P.map F)) = R := ⟨_, rfl⟩
  have hR2 : Hid (strB (joined (P.map F)) = R) := hR
  rw [hR]
  clear hR
  have hmk := print_make_of (P := Tryd.prog) 40 9 (.string ⟨#[]⟩) 16 Tryd.underlying40 info9 rfl (by decide) n (by have := hn1.out; omega)
  go_enter Tryd.func73, Tryd.ntmps73
  go_wp2_with (go_at_call 83; refine (c83 _).mono ?_; rintro e w1 ⟨v, rfl, HP, h1⟩; clear c83; obtain ⟨gp, cap, rfl, hgb, hgl⟩ := HP.form hn0.out)
  have hsz1 := h1.size
  have HP2 := own_move (w1 := w1.alloc (.cells (madeCells #[.string ⟨#[]⟩] n) 9)) HP (fun k hk => by
    have hk2 := own_lt HP k hk
    exact Below.heap_alloc _ _ _ hk2)
  have HE := own_made_of (enc := encP) (d := []) w1 w.heap.size 9 n hsz1 (by have := hn1.out; omega)
  have hB2 : Below w.heap.size w (w1.alloc (.cells (madeCells #[.string ⟨#[]⟩] n) 9)) := h1.alloc hsz1 _
  obtain ⟨g, hg⟩ : ∃ g, w1.heap.size = g := ⟨_, rfl⟩
  have hgg : gp < g := by omega
  have hE0 : encP [] = .string ⟨#[]⟩ := rfl
  rw [hE0] at HE
  have hgw : w.heap.size ≤ g := by omega
  obtain ⟨w2, hw2⟩ : ∃ w2, w1.alloc (.cells (madeCells #[.string ⟨#[]⟩] n) 9) = w2 := ⟨_, rfl⟩
  have hgl2 : g < w2.heap.size := by rw [← hw2, ← hg]; simp
  rw [hw2] at HP2 HE hB2 ⊢
  rw [hg] at HE ⊢
  clear HP h1 hsz1 hgl hw2 hE0
  have HE2 : w2.ownsRow w.heap.size 9 1 (.slice (some ⟨g, 0, none⟩) n n) n (encs encP (rowE P F 0)) := by
    rw [rowE_zero, hn2.out]; exact HE
  clear HE hg
  go_loopg [7, 22] n (fun gf s7 s22 wx => ∃ i : Nat, s22 = .int .i64 (i : Int) ∧ s7 = .bool (chP P F i) ∧ i ≤ n ∧ n ≤ i + gf ∧ Below w.heap.size w wx ∧ wx.ownsRow w.heap.size 9 1 (.slice (some ⟨gp, 0, none⟩) n cap) n (encs encP P) ∧ wx.ownsRow w.heap.size 9 1 (.slice (some ⟨g, 0, none⟩) n n) n (encs encP (rowE P F i)))
  case atStart => exact ⟨0, rfl, rfl, Nat.zero_le _, by omega, hB2, HP2, HE2⟩
  case round =>
    clear HP2 HE2 hB2 hgl2
    obtain ⟨i, rfl, rfl, hi, hgf, HB, HP, HE⟩ := hrel
    have hn1' := hn1.out
    by_cases hin : i < n
    · obtain ⟨g', rfl⟩ : ∃ g', gk = g' + 1 := ⟨gk - 1, by omega⟩
      have hiP : i < P.length := by rw [hn2.out]; exact hin
      have hset := rowE_set (F := F) hiP
      have hch := chP_succ (F := F) hiP
      have hgetx : P.getD i [] = P[i] := by simp [List.getD, hiP]
      have hpl : (P.getD i []).length ≤ 10000000 := by rw [hgetx]; exact hel2.out _ (List.getElem_mem hiP)
      have hcp := (own_at_of (d := []) HP (i : Int) (by omega) (by omega)).1
      have hrd : rdOf [] P (i : Int) = P.getD i [] := rfl
      rw [hrd, Int.toNat_natCast] at hcp
      have hglt : ∀ k, (Value.slice (some ⟨g, 0, none⟩) n n).ownBlock = some k → k < wr.heap.size := own_lt HE
      have hglt' : g < wr.heap.size := hglt g rfl
      obtain ⟨p, hp⟩ : ∃ p, P.getD i [] = p := ⟨_, rfl⟩
      rw [hp] at hset hch hpl hcp
      have hcp2 : wr.cell? ⟨gp, i, none⟩ = some (.string (strB p)) := hcp
      have cc := fun W h => c49 W p (by omega) h
      have hWr : Wo wr := hW.below HB
      have w1 : wrap64 ((i : Int) + 1) = ((i + 1 : Nat) : Int) := w64n (k := 1) (by omega)
      have c1 : (i : Int) < (n : Int) := by omega
      have hset2 : Hid ((rowE P F i).set i (F p) = rowE P F (i + 1)) := hset
      have hb0 : ((strB (F p)).toList == (strB p).toList) = (F p == p) := by rw [strB_toList, strB_toList]
      have hch2 : chP P F (i + 1) = (chP P F i || !(F p == p)) := hch
      obtain ⟨b, hb⟩ : ∃ b, chP P F i = b := ⟨_, rfl⟩
      obtain ⟨b', hb'⟩ : ∃ b', (F p == p) = b' := ⟨_, rfl⟩
      have hch3 : Hid (chP P F (i + 1) = (b || !b')) := Lib.hid (by rw [hch2, hb, hb'])
      rw [hb'] at hb0
      rw [hb]
      have henc : encP (F p) = .string (strB (F p)) := rfl
      have hFp : Hid (encP (F p) = .string (strB (F p))) := henc
      obtain ⟨S1, hS1⟩ : ∃ S1, strB (F p) = S1 := ⟨_, rfl⟩
      obtain ⟨S2, hS2⟩ : ∃ S2, strB p = S2 := ⟨_, rfl⟩
      have hFp2 : Hid (encP (F p) = .string S1) := Lib.hid (by rw [henc, hS1])
      rw [hS1] at cc hb0
      rw [hS2] at cc hb0 hcp2
      have hgi2 : Hid (i + 1 ≤ n ∧ n ≤ i + 1 + g') := Lib.hid (by omega)
      have hin2 : Hid (i < n) := hin
      clear c49 hset hch hcp hgetx hel2 hpl hb hb' hch2 henc hFp hS1 hS2 hp hrd hiP hi hgf hid2 hjl2 hR2 hglt hmk hin
      cases b <;> cases b' <;> (
        go_wp2_with (go_at_call 49; refine (cc _ hWr).mono ?_; rintro e w3 ⟨rfl, h3⟩; clear cc; have HE3 := own_move (w1 := w3) HE (fun k hk => h3.block k (own_lt HE k hk)); have HP3 := own_move (w1 := w3) HP (fun k hk => h3.block k (own_lt HP k hk)); have hB3 := HB.trans (h3.mono HB.size); have hce := own_at_of (d := []) HE3 (i : Int) (by omega) (by have := hin2.out; omega); rw [Int.toNat_natCast] at hce; obtain ⟨hce1, hce2⟩ := hce)
        go_roundg g'
        case measure => omega
        case rel =>
          have hst := own_store_of HE3 (i : Int) (F p)
          rw [Int.toNat_natCast, hset2.out, hFp2.out] at hst
          refine ⟨i + 1, by simp, by rw [hch3.out]; rfl, hgi2.out.1, hgi2.out.2, hB3.setCell hgw _, own_move HP3 (fun k hk => ?_), hst.1⟩
          have : gp = k := by simpa [Value.ownBlock] using hk
          exact Below.heap_setCell _ _ _ _ (by show k ≠ g; omega))
    · have hie : i = n := by omega
      subst hie
      have c1 : ((i : Int) < (i : Int)) = False := by simp
      have hEall : rowE P F i = P.map F := by rw [← hn2.out]; exact rowE_all P F
      rw [hEall] at HE
      obtain ⟨b, hb⟩ : ∃ b, chP P F i = b := ⟨_, rfl⟩
      rw [hb]
      cases b with
      | false =>
        have hno : R = s := by
          rw [← hR2.out]
          exact hid2.out (chP_no (by rw [hn2.out]; exact hb))
        have hno2 : Hid (R = s) := hno
        clear hb hno c49 hid2 hjl2 hR2 hel2 hn2 hmk
        go_wp2
        go_ret
        exact ⟨congrArg (fun v => Ending.returned (Value.string v)) hno2.out.symm, HB⟩
      | true =>
        have hcl : ∀ (j : Nat) x, ((P.map F).map strB)[j]? = some x → wr.cell? ⟨g, 0 + j, none⟩ = some (.string x) := by
          intro j x hx
          rw [List.getElem?_map] at hx
          obtain ⟨y, hy, rfl⟩ := Option.map_eq_some_iff.1 hx
          have hj : j < i := by
            have := (List.getElem?_eq_some_iff.1 hy).1
            rw [List.length_map, hn2.out] at this
            exact this
          have h1 := (own_at_of (d := []) HE (j : Int) (by omega) (by omega)).1
          rw [Int.toNat_natCast] at h1
          have h2 : rdOf [] (P.map F) (j : Int) = y := by
            show (P.map F).getD j [] = y
            simp [List.getD, hy]
          rw [h2] at h1
          rw [Nat.zero_add]
          exact h1
        have hlm : ((P.map F).map strB).length = i := by rw [List.length_map, List.length_map, hn2.out]
        have hjn : Lib.join (((P.map F).map strB).map (·.data.toList)) (⟨#[47]⟩ : ByteArray).data.toList = joined (P.map F) := by
          rw [List.map_map]
          have : (fun x : ByteArray => x.data.toList) ∘ strB = id := by
            funext l
            exact tl_strB l
          rw [this, List.map_id]
          exact join_joined _
        have c84 := Laid.join84 g 0 i ((P.map F).map strB) ⟨#[47]⟩ wr hcl (own_lt HE g rfl) (by rw [hlm]; omega) (by rw [hlm]; exact Nat.le_refl _) (by rw [hjn]; have := hjl2.out; omega)
        rw [hlm, hjn] at c84
        have hRR : (⟨(joined (P.map F)).toArray⟩ : ByteArray) = R := hR2.out
        rw [hRR] at c84
        have hBs := HB.size
        clear hb c49 hid2 hjl2 hR2 hel2 hn2 hmk hcl hlm hjn hRR hEall
        go_wp2_with (go_at_call 84; refine c84.mono ?_; rintro e w3 ⟨rfl, h3⟩)
        go_ret
        exact ⟨rfl, HB.trans (h3.mono hBs)⟩
/-- A path from Standard's writing. -/
def pathF (m : Int) (s : ByteArray) : ByteArray := strB (joined ((pieces [] (tl s)).map (frP m)))
set_option maxHeartbeats 2000000 in
theorem path73' (m : Int) (s : ByteArray) (w : World) (hs : s.size ≤ 10000000) (hW : Wo w) :
    Calls Tryd.prog 73 #[.iface 43 (.int .u64 m), .string s] w fun e w' => e = .returned (.string (pathF m s)) ∧ Below w.heap.size w w' := by
  by_cases hm : m = 33652738
  · have e : pathF m s = s := by
      refine pathN_id (f := fromN m) (fun p _ => ?_)
      unfold fromN
      rw [if_pos hm]
      exact tl_strB p
    rw [e]
    subst hm
    have heq := fun (W : World) => Lib.run_eql_iface_int (P := Tryd.prog) W (t := 58) (tx := 43) (k := .u64) 33652738 33652738 Tryd.underlying58 (by kernel_rfl) Tryd.underlying43
    rw [show ((33652738 : Int) == 33652738) = true from rfl] at heq
    go_enter Tryd.func73, Tryd.ntmps73
    go_wp2
    go_ret
    exact ⟨rfl, Below.refl _ _⟩
  · exact path73 m s w hs hW hm
theorem path53 (m : Int) (s : ByteArray) (w : World) (hs : s.size ≤ 10000000) (hW : Wo w) :
    Calls Tryd.prog 53 #[.int .u64 m, .string s] w fun e w' => e = .returned (.string (pathF m s)) ∧ Below w.heap.size w w' := by
  have c := path73' m s w hs hW
  obtain ⟨t, ht⟩ : ∃ t, pathF m s = t := ⟨_, rfl⟩
  rw [ht] at c ⊢
  clear ht
  go_enter Tryd.func53, Tryd.ntmps53
  go_wp2_with (go_at_call 73; refine c.mono ?_; rintro e w1 ⟨rfl, h1⟩)
  go_ret
  exact ⟨rfl, h1⟩
theorem path28 (m : Int) (s : ByteArray) (w : World) (hs : s.size ≤ 10000000) (hW : Wo w) :
    Calls Tryd.prog 28 #[.int .u64 m, .string s] w fun e w' => e = .returned (.string (pathF m s)) ∧ Below w.heap.size w w' := by
  have c := path53 m s w hs hW
  obtain ⟨t, ht⟩ : ∃ t, pathF m s = t := ⟨_, rfl⟩
  rw [ht] at c ⊢
  clear ht
  go_enter Tryd.func28, Tryd.ntmps28
  go_wp2_with (go_at_call 53; refine c.mono ?_; rintro e w1 ⟨rfl, h1⟩)
  go_ret
  exact ⟨rfl, h1⟩
end Go.Proofs.YtonmnpmklkbioaaDoor.Given
/- Bytes of the call's own, written on behind; the pieces of a path that are still to come. -/
namespace Go.Proofs.YtonmnpmklkbioaaDoor.Given
open Go.RowKit Go.Lib Go.Proofs.YtonmnpmklkbioaaDoorW.PrintWords Go.Proofs.YtonmnpmklkbioaaDoorW.PrintLast Go.Proofs.YtonmnpmklkbioaaDoorW.PrintMore Go.Proofs.YtonmnpmklkbioaaDoor.PN
open Go.Proofs.YtonmnpmklkbioaaDoor.Pt (pieces pieces_ne pieces_nil pieces_cons joined joined_cons)
open Go.Proofs.YtonmnpmklkbioaaDoor.Sy (tl strB tl_size strB_tl tl_strB size_strB)
set_option linter.unusedVariables false
set_option linter.unusedSimpArgs false
/-- Bytes as values. -/
def byV (l : List UInt8) : List Value := l.map fun b => Value.int .u8 (b.toNat : Int)
theorem byV_app (a b : List UInt8) : byV (a ++ b) = byV a ++ byV b := by unfold byV; rw [List.map_append]
theorem strCells_strB (l : List UInt8) : strCells (strB l) = byV l := rfl
/-- A text is written behind bytes of the call's own. -/
theorem stepAppS {w : World} {ops : Array Oper} {rest : List Oper} {o : Oper} {a : Act} {Q : Exit → Act → World → Prop} {w0 : World} (hgd : o.guard = none) (sl x : Operand)
    (ho : o.op = .call { callee := .builtin .append, args := #[sl, x], argTypes := #[23, 9] }) (base : Nat) {v : Value} {l : List UInt8} (hs : a.eval sl = v) (hown : w.ownsRow base 5 1 v l.length (byV l)) (t : List UInt8)
    (hx : a.eval x = .string (strB t)) (hbytes : l.length + t.length ≤ 140737488355328) (HB : Below base w0 w) (hbase : base ≤ w.heap.size)
    (h : ∀ v' w', w'.ownsRow base 5 1 v' (l ++ t).length (byV (l ++ t)) → Below base w0 w' → wpList Tryd.prog ops Q rest (a.put o.dst v') w') : wpList Tryd.prog ops Q (o :: rest) a w := by
  obtain ⟨i, hi, hzz⟩ := Option.map_eq_some_iff.1 infoG5
  simp only [Prod.mk.injEq] at hzz
  have hsz := size_strB t
  refine wpList_append_own_string w hgd sl x 23 9 ho base 5 i Tryd.underlying23 Tryd.underlying9 hi hzz.1 hzz.2.1 hzz.2.2 v l.length (byV l) hs hown (strB t) hx (by rw [hsz]; unfold maxLen; omega) (by rw [hsz]; exact hbytes) hbase ?_
  intro v' w' h1 h2 _
  refine h v' w' ?_ (HB.grown h2 hbase (own_base hown))
  rw [byV_app, List.length_append]
  rw [hsz, strCells_strB] at h1
  exact h1
/-- One byte is. -/
theorem stepAppB {W : World} {ops : Array Oper} {rest : List Oper} {o : Oper} {a : Act} {Q : Exit → Act → World → Prop} {w0 : World} (hgd : o.guard = none) (sl x : Operand)
    (ho : o.op = .call { callee := .builtin .append, args := #[sl, x], argTypes := #[23, 23] }) (base : Nat) {v : Value} {l : List UInt8} (hs : a.eval sl = v) (hown : W.ownsRow base 5 1 v l.length (byV l)) (b : UInt8)
    (hx : a.eval x = .slice (some ⟨W.heap.size, 0, none⟩) 1 1) (hbytes : l.length + 1 ≤ 140737488355328) (HB : Below base w0 W) (hbase : base ≤ W.heap.size)
    (h : ∀ v' w', w'.ownsRow base 5 1 v' (l ++ [b]).length (byV (l ++ [b])) → Below base w0 w' → wpList Tryd.prog ops Q rest (a.put o.dst v') w') : wpList Tryd.prog ops Q (o :: rest) a (W.alloc (.cells #[.int .u8 (b.toNat : Int)] 5)) := by
  refine print_append_cells (w0 := w0) base hgd sl x 23 5 (.int .u8 0) 1 1 ho Tryd.underlying23 infoG5 rfl (by decide) (by decide) v l.length (byV l) [.int .u8 (b.toNat : Int)] hs hx rfl (by intro u hu; rw [List.mem_singleton.1 hu]; rfl) hown HB hbase (by omega) ?_
  intro v1 w1 h1 h2 _ _
  refine h v1 w1 ?_ h2
  rw [byV_app, List.length_append]
  exact h1
/-- .. and back. -/
theorem textS {w : World} {base : Nat} {v : Value} {l : List UInt8} (h : w.ownsRow base 5 1 v l.length (byV l)) : (convert 23 9 v).run Tryd.prog w = .ok (.string (strB l)) w := by
  rcases h.2 with ⟨rfl, h0⟩ | ⟨g, cap, cur, rfl, hbg, hg, hnc, hcm, hcs, htake⟩
  · have : l = [] := List.length_eq_zero_iff.1 h0
    subst this
    exact run_convert_bytes_nil w 23 5 Tryd.underlying23 Tryd.underlying5 0 0 9 Tryd.underlying9
  · refine textG (base := base) (l := l) ⟨g, cap, cur, (0, 0), ?_, hbg, hg, .inl rfl, ?_, hcm, ?_, ?_⟩
    · rw [List.length_map]
    · rw [List.length_map]; exact hnc
    · rw [hcs, Nat.mul_one]
    · rw [List.length_map]
      rw [Nat.mul_one] at htake
      exact htake
/-- What is still to be written at the i-th byte, the piece having begun at f. -/
def todoP (F : List UInt8 → List UInt8) (l : List UInt8) (i f : Nat) : List UInt8 := if i ≤ l.length then joined ((pieces ((l.take i).drop f) (l.drop i)).map F) else []
theorem todo_end (F : List UInt8 → List UInt8) (l : List UInt8) (f : Nat) : todoP F l l.length f = F (l.drop f) := by
  unfold todoP
  rw [if_pos (Nat.le_refl _), List.take_length, List.drop_length, pieces_nil]
  rfl
theorem todo_step {F : List UInt8 → List UInt8} {l : List UInt8} {i f : Nat} (hi : i < l.length) (hf : f ≤ i) (h : l.getD i 0 ≠ 47) : todoP F l i f = todoP F l (i + 1) f := by
  unfold todoP
  have hx : l.getD i 0 = l[i] := by simp [List.getD, hi]
  rw [hx] at h
  rw [if_pos (by omega), if_pos (by omega), List.drop_eq_getElem_cons hi, pieces_cons, if_neg h, List.take_succ_eq_append_getElem hi, List.drop_append_of_le_length (by rw [List.length_take]; omega)]
theorem todo_slash {F : List UInt8 → List UInt8} {l : List UInt8} {i f : Nat} (hi : i < l.length) (hf : f ≤ i) (h : l.getD i 0 = 47) : todoP F l i f = F ((l.take i).drop f) ++ 47 :: todoP F l (i + 1) (i + 1) := by
  unfold todoP
  have hx : l.getD i 0 = l[i] := by simp [List.getD, hi]
  rw [hx] at h
  have he : (l.take (i + 1)).drop (i + 1) = [] := List.drop_eq_nil_of_le (by rw [List.length_take]; omega)
  rw [if_pos (by omega), if_pos (by omega), List.drop_eq_getElem_cons hi, pieces_cons, if_pos h, List.map_cons, joined_cons _ (by simp [pieces_ne]), he]
theorem extract_piece {s : ByteArray} {f i : Nat} : s.extract f i = strB (((tl s).take i).drop f) := by
  rw [← strB_tl (s.extract f i)]
  congr 1
  show (s.extract f i).data.toList = _
  rw [ByteArray.data_extract, Array.toList_extract, List.extract_eq_take_drop, List.drop_take]
  try rfl
end Go.Proofs.YtonmnpmklkbioaaDoor.Given
