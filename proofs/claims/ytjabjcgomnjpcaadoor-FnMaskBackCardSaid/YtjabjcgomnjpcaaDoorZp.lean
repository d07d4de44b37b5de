/- The pieces of a text between two marks (one byte): zzIndex, zzSplit. -/
import Derived.Test.YtjabjcgomnjpcaaDoorPMx0
import Derived.Lib.MapLaws
import Derived.Lib.Hide
import Derived.Laws.Strings2
import Derived.Laws.Strings3
import Derived.Laws.DeepStrings4
namespace Go.Proofs.YtjabjcgomnjpcaaDoor.Zp
open Go.RowKit Go.Proofs.YtjabjcgomnjpcaaDoorW.PrintWords Go.Proofs.YtjabjcgomnjpcaaDoorW.PrintLast Go.Proofs.YtjabjcgomnjpcaaDoorW.PrintMore
set_option linter.unusedVariables false
set_option linter.unusedSimpArgs false

def tl (s : ByteArray) : List UInt8 := s.data.toList
def strB (l : List UInt8) : ByteArray := ⟨l.toArray⟩
theorem tl_size (s : ByteArray) : (tl s).length = s.size := Array.length_toList
theorem strB_tl (S : ByteArray) : strB (tl S) = S := by cases S; simp [strB, tl]
theorem tl_strB (l : List UInt8) : tl (strB l) = l := by simp [strB, tl]
theorem size_strB (l : List UInt8) : (strB l).size = l.length := List.size_toArray
theorem tl_eq (s : ByteArray) : s.toList = tl s := ByteArray.toList_eq s
theorem get_at {s : ByteArray} {i : Nat} (hi : i < s.size) : s.get! i = (tl s).getD i 0 := by
  have h2 : i < s.data.size := hi
  show s.data[i]! = s.data.toList.getD i 0
  rw [getElem!_pos s.data i h2, List.getD, Array.getElem?_toList, Array.getElem?_eq_getElem h2]
  rfl
theorem extract_is (s : ByteArray) (f i : Nat) : s.extract f i = strB (((tl s).take i).drop f) := by
  rw [← strB_tl (s.extract f i)]
  congr 1
  show (s.extract f i).data.toList = _
  rw [ByteArray.data_extract, Array.toList_extract, List.extract_eq_take_drop, List.drop_take]
  rfl
theorem one_at {s : ByteArray} {i : Nat} (hi : i < s.size) : s.extract i (i + 1) = strB [s.get! i] := by
  rw [extract_is, get_at hi]
  congr 1
  have hl : i < (tl s).length := by rw [tl_size]; exact hi
  rw [List.take_succ_eq_append_getElem hl, List.drop_append_of_le_length (by rw [List.length_take]; omega), List.drop_eq_nil_of_le (by rw [List.length_take]; omega)]
  simp [List.getD, hl]
theorem extract_take (s : ByteArray) (p : Nat) : s.extract 0 p = strB ((tl s).take p) := by rw [extract_is, List.drop_zero]
theorem extract_drop (s : ByteArray) (p : Nat) : s.extract p s.size = strB ((tl s).drop p) := by
  rw [extract_is, List.take_of_length_le (by rw [tl_size]; exact Nat.le_refl _)]
theorem w64n {p k : Nat} (h : p + k ≤ 9223372036854775807) : wrap64 ((p : Int) + (k : Int)) = ((p + k : Nat) : Int) := by unfold wrap64; omega
def pieces (c : UInt8) : List UInt8 → List UInt8 → List (List UInt8)
  | p, [] => [p]
  | p, b :: l => if b = c then p :: pieces c [] l else pieces c (p ++ [b]) l
theorem pieces_nil (c : UInt8) (p : List UInt8) : pieces c p [] = [p] := rfl
theorem pieces_cons (c : UInt8) (p : List UInt8) (b : UInt8) (l : List UInt8) : pieces c p (b :: l) = if b = c then p :: pieces c [] l else pieces c (p ++ [b]) l := rfl
theorem pieces_ne (c : UInt8) (l p : List UInt8) : pieces c p l ≠ [] := by
  induction l generalizing p with
  | nil => simp [pieces]
  | cons b l ih => unfold pieces; split <;> simp [ih]
theorem pieces_no (c : UInt8) : ∀ (l p : List UInt8), (∀ b ∈ l, b ≠ c) → pieces c p l = [p ++ l]
  | [], p, _ => by simp [pieces]
  | b :: l, p, h => by
    unfold pieces
    rw [if_neg (h b List.mem_cons_self), pieces_no c l _ (fun x hx => h x (List.mem_cons_of_mem _ hx))]
    simp
theorem pieces_append (c : UInt8) : ∀ (a p : List UInt8) (l : List UInt8), (∀ b ∈ a, b ≠ c) → pieces c p (a ++ c :: l) = (p ++ a) :: pieces c [] l
  | [], p, l, _ => by rw [List.nil_append, pieces_cons, if_pos rfl, List.append_nil]
  | b :: a, p, l, h => by
    rw [List.cons_append, pieces_cons, if_neg (h b List.mem_cons_self), pieces_append c a _ l (fun x hx => h x (List.mem_cons_of_mem _ hx))]
    simp
theorem pieces_two (c : UInt8) : ∀ (a p b : List UInt8), pieces c p (a ++ c :: b) = pieces c p a ++ pieces c [] b
  | [], p, b => by rw [List.nil_append, pieces_cons, if_pos rfl]; rfl
  | x :: a, p, b => by
    rw [List.cons_append, pieces_cons, pieces_cons]
    split
    · rw [pieces_two c a]; rfl
    · rw [pieces_two c a]
theorem pieces_len (c : UInt8) : ∀ (l p : List UInt8), (pieces c p l).length ≤ l.length + 1
  | [], p => by simp [pieces]
  | b :: l, p => by
    unfold pieces
    split
    · rw [List.length_cons, List.length_cons]; exact Nat.succ_le_succ (pieces_len c l [])
    · rw [List.length_cons]; have := pieces_len c l (p ++ [b]); omega
theorem pieces_le (c : UInt8) : ∀ (l p : List UInt8), ∀ q ∈ pieces c p l, q.length ≤ p.length + l.length
  | [], p, q, h => by
    rw [pieces_nil, List.mem_singleton] at h
    rw [h]; simp
  | b :: l, p, q, h => by
    rw [pieces_cons] at h
    split at h
    · rcases List.mem_cons.1 h with rfl | h
      · omega
      · have := pieces_le c l [] q h; simp at this ⊢; omega
    · have := pieces_le c l (p ++ [b]) q h; simp at this ⊢; omega
/-- Where the first mark stands. -/
def ixN (c : UInt8) : List UInt8 → Option Nat
  | [] => none
  | b :: l => if b = c then some 0 else (ixN c l).map (· + 1)
def ixV (c : UInt8) (l : List UInt8) : Int := match ixN c l with
  | some n => (n : Int)
  | none => -1
theorem ixN_none {c : UInt8} : ∀ {l : List UInt8}, ixN c l = none → ∀ b ∈ l, b ≠ c
  | [], _, b, hb => by cases hb
  | x :: l, h, b, hb => by
    unfold ixN at h
    split at h
    · cases h
    · rename_i hc
      have h2 : ixN c l = none := by simpa using h
      rcases List.mem_cons.1 hb with rfl | hb
      · exact hc
      · exact ixN_none h2 b hb
theorem ixN_some {c : UInt8} : ∀ {l : List UInt8} {n : Nat}, ixN c l = some n → (∀ b ∈ l.take n, b ≠ c) ∧ l = l.take n ++ c :: l.drop (n + 1) ∧ n < l.length
  | [], n, h => by cases h
  | x :: l, n, h => by
    unfold ixN at h
    split at h
    · rename_i hc
      cases h
      refine ⟨fun b hb => by simp at hb, ?_, by simp⟩
      rw [hc]; rfl
    · rename_i hc
      obtain ⟨m, hm, rfl⟩ := Option.map_eq_some_iff.1 h
      obtain ⟨h1, h2, h3⟩ := ixN_some hm
      refine ⟨fun b hb => ?_, ?_, by simpa using h3⟩
      · rw [List.take_succ_cons] at hb
        rcases List.mem_cons.1 hb with rfl | hb
        · exact hc
        · exact h1 b hb
      · rw [List.take_succ_cons, List.drop_succ_cons, List.cons_append, ← h2]
theorem ixN_drop {c : UInt8} {l : List UInt8} {i : Nat} (hi : i < l.length) (h : l.getD i 0 ≠ c) : (ixN c (l.drop i)).map (· + i) = (ixN c (l.drop (i + 1))).map (· + (i + 1)) := by
  have e : l.drop i = l.getD i 0 :: l.drop (i + 1) := by
    rw [List.drop_eq_getElem_cons hi]
    simp [List.getD, hi]
  have e2 : ixN c (l.getD i 0 :: l.drop (i + 1)) = (ixN c (l.drop (i + 1))).map (· + 1) := by
    conv => lhs; unfold ixN
    rw [if_neg h]
  rw [e, e2, Option.map_map]
  congr 1
  funext x
  simp
  omega
theorem info9 : (Tryd.prog.info? 9).map (fun i => (i.zero, i.size, i.bytes)) = some (some (.string ⟨#[]⟩), 1, 16) := by kernel_rfl
/-- A piece as a text. -/
def encP (p : List UInt8) : Value := .string (strB p)
set_option maxHeartbeats 2000000 in
theorem idx44 (s : ByteArray) (w : World) (hs : s.size ≤ 1000000000) :
    Calls Tryd.prog 31 #[.string s, .string ⟨#[44]⟩] w fun e w' => e = .returned (.int .i64 (ixV 44 (tl s))) ∧ w' = w := by
  obtain ⟨V, hV⟩ : ∃ V, ixV 44 (tl s) = V := ⟨_, rfl⟩
  have hV2 : Hid (ixV 44 (tl s) = V) := hV
  rw [hV]
  clear hV
  go_enter Tryd.func31, Tryd.ntmps31
  go_wp2
  go_loopg [5] s.size (fun gf s5 wx => ∃ i : Nat, s5 = .int .i64 (i : Int) ∧ wx = w ∧ i ≤ s.size ∧ s.size ≤ i + gf ∧ Hid (ixN 44 (tl s) = (ixN 44 ((tl s).drop i)).map (· + i)))
  case atStart => exact ⟨0, rfl, rfl, Nat.zero_le _, by omega, by show _ = _; rw [List.drop_zero]; simp⟩
  case round =>
    obtain ⟨i, rfl, rfl, hi, hg, hH⟩ := hrel
    have w1 : wrap64 ((i : Int) + 1) = ((i + 1 : Nat) : Int) := w64n (k := 1) (by omega)
    by_cases hn : i < s.size
    · obtain ⟨g', rfl⟩ : ∃ g', gk = g' + 1 := ⟨gk - 1, by omega⟩
      have c1 : ((i + 1 : Nat) : Int) ≤ (s.size : Int) := by omega
      have c2 : (i : Int) ≤ ((i + 1 : Nat) : Int) := by omega
      have hx := one_at hn
      have hgt := get_at hn
      by_cases hb : s.get! i = 44
      · have hx2 : ((s.extract i (i + 1)).toList == [44]) = true := by rw [hx, hb, tl_eq, tl_strB]; simp
        have hv : ixV 44 (tl s) = (i : Int) := by
          unfold ixV
          rw [hH.out, List.drop_eq_getElem_cons (by rw [tl_size]; exact hn)]
          have : (tl s)[i]'(by rw [tl_size]; exact hn) = 44 := by
            rw [hgt] at hb
            simpa [List.getD, tl_size, hn] using hb
          unfold ixN
          rw [if_pos this]
          simp
        have hv2 : Hid (ixV 44 (tl s) = (i : Int)) := hv
        clear hH hv hx hb hgt
        go_wp2
        go_ret
        exact ⟨congrArg (fun v => Ending.returned (Value.int .i64 v)) (hv2.out.symm.trans hV2.out), rfl⟩
      · have hx2 : ((s.extract i (i + 1)).toList == [44]) = false := by
          rw [hx, tl_eq, tl_strB, beq_eq_false_iff_ne]
          intro e
          exact hb (List.cons.inj e).1
        have hd := ixN_drop (c := 44) (l := tl s) (i := i) (by rw [tl_size]; exact hn) (by rw [← hgt]; exact hb)
        have hH2 : Hid (ixN 44 (tl s) = (ixN 44 ((tl s).drop (i + 1))).map (· + (i + 1))) := hH.out.trans hd
        clear hH hx hb hgt hd
        go_wp2
        go_roundg g'
        case measure => omega
        case rel => exact ⟨i + 1, by simp, rfl, by omega, by omega, hH2⟩
    · have c1 : (((i + 1 : Nat) : Int) ≤ (s.size : Int)) = False := by simp; omega
      have hv : ixV 44 (tl s) = -1 := by
        unfold ixV
        rw [hH.out, List.drop_eq_nil_of_le (by rw [tl_size]; omega)]
        rfl
      have hv2 : Hid (ixV 44 (tl s) = -1) := hv
      clear hH hv
      go_wp2
      go_ret
      exact ⟨congrArg (fun v => Ending.returned (Value.int .i64 v)) (hv2.out.symm.trans hV2.out), rfl⟩
set_option maxHeartbeats 4000000 in
set_option maxRecDepth 100000 in
theorem split44 (s : ByteArray) (w : World) (hs : s.size ≤ 1000000000) :
    Calls Tryd.prog 19 #[.string s, .string ⟨#[44]⟩] w fun e w' => ∃ v, e = .returned v ∧ w'.ownsRow w.heap.size 9 1 v (pieces 44 [] (tl s)).length (encs encP (pieces 44 [] (tl s))) ∧ Below w.heap.size w w' := by
  obtain ⟨P, hP⟩ : ∃ P, pieces 44 [] (tl s) = P := ⟨_, rfl⟩
  have hP' : Hid (pieces 44 [] (tl s) = P) := hP
  rw [hP]
  clear hP
  go_enter Tryd.func19, Tryd.ntmps19
  go_wp2
  go_loopg [0, 5] (s.size + 1) (fun gf s0 s5 wx => ∃ (l : List UInt8) (L : List (List UInt8)), s0 = .string (strB l) ∧ wx.ownsRow w.heap.size 9 1 s5 L.length (encs encP L) ∧ Below w.heap.size w wx ∧ Hid (L ++ pieces 44 [] l = P) ∧ l.length < gf ∧ L.length + l.length ≤ s.size)
  case atStart => exact ⟨tl s, [], by rw [strB_tl], own_nil _ _ _ _, Below.refl _ _, hP'.out, by rw [tl_size]; omega, by rw [tl_size]; simp⟩
  case round =>
    obtain ⟨l, L, rfl, HO, HB, hH, hg, hl⟩ := hrel
    clear hP'
    obtain ⟨g', rfl⟩ : ∃ g', gk = g' + 1 := ⟨gk - 1, by omega⟩
    have c91 := fun W => idx44 (strB l) W (by rw [size_strB]; omega)
    rw [tl_strB] at c91
    have hsl := size_strB l
    have hbase := HB.size
    cases hi : ixN 44 l with
    | none =>
      have hv : ixV 44 l = -1 := by unfold ixV; rw [hi]
      have hpl := pieces_no 44 l [] (ixN_none hi)
      rw [hv] at c91
      rw [hpl] at hH
      have hH2 : Hid (L ++ [l] = P) := hH
      have hll : Hid (L.length ≤ 1000000000) := Lib.hid (by omega)
      clear hH hpl hv hi hsl hg hl
      go_wp2_with (first | (go_at_call 31; refine (c91 _).mono ?_; rintro e w1 ⟨rfl, rfl⟩; clear c91) | ((with_reducible refine gate_builtin (b := .append) (xs := #[.tmp 42, .tmp 44]) rfl ?_); at_builtin; refine print_append_of (w0 := w) encP w.heap.size rfl (.tmp 42) (.tmp 44) 37 9 (.string ⟨#[]⟩) 16 rfl Tryd.underlying37 info9 rfl (by decide) u5 L l rfl rfl rfl HO HB hbase (by have := hll.out; omega) ?_; intro v1 w1 HO1 HB1 hg1 hat1))
      go_ret
      refine ⟨_, rfl, ?_, HB1⟩
      rw [hH2.out] at HO1
      exact HO1
    | some n =>
      have hv : ixV 44 l = (n : Int) := by unfold ixV; rw [hi]
      obtain ⟨h1, h2, h3⟩ := ixN_some hi
      have hpl := pieces_append 44 (l.take n) [] (l.drop (n + 1)) h1
      rw [← h2, List.nil_append] at hpl
      rw [hv] at c91
      rw [hpl] at hH
      have hH2 : Hid ((L ++ [l.take n]) ++ pieces 44 [] (l.drop (n + 1)) = P) := Lib.hid (by rw [List.append_assoc]; exact hH.out)
      have e1 := extract_take (strB l) n
      have e2 := extract_drop (strB l) (n + 1)
      rw [tl_strB] at e1 e2
      have hll : Hid (L.length ≤ 1000000000) := Lib.hid (by omega)
      have hl2 : Hid ((l.drop (n + 1)).length < g' ∧ (L ++ [l.take n]).length + (l.drop (n + 1)).length ≤ s.size) := Lib.hid (by rw [List.length_append, List.length_drop, List.length_singleton]; omega)
      have wn : wrap64 ((n : Int) + 1) = ((n + 1 : Nat) : Int) := w64n (k := 1) (by omega)
      have k1 : (n : Int) ≤ ((strB l).size : Int) := by rw [hsl]; omega
      have k2 : ((n + 1 : Nat) : Int) ≤ ((strB l).size : Int) := by rw [hsl]; omega
      have k3 : (0 : Int) ≤ (n : Int) := by omega
      have k4 : ((n : Int) < 0) = False := by simp
      have k5 : (0 : Int) ≤ ((n + 1 : Nat) : Int) := by omega
      obtain ⟨S, hS⟩ : ∃ S, strB l = S := ⟨_, rfl⟩
      rw [hS] at c91 e1 e2 k1 k2 ⊢
      clear hH hpl hv hi hsl hg hl hS h1 h2 h3
      go_wp2_with (first | (go_at_call 31; refine (c91 _).mono ?_; rintro e w1 ⟨rfl, rfl⟩; clear c91) | ((with_reducible refine gate_builtin (b := .append) (xs := #[.tmp 46, .tmp 50]) rfl ?_); at_builtin; refine print_append_of (w0 := w) encP w.heap.size rfl (.tmp 46) (.tmp 50) 37 9 (.string ⟨#[]⟩) 16 rfl Tryd.underlying37 info9 rfl (by decide) u5 L (l.take n) rfl rfl rfl HO HB hbase (by have := hll.out; omega) ?_; intro v1 w1 HO1 HB1 hg1 hat1))
      go_roundg g'
      case measure => omega
      case rel => exact ⟨l.drop (n + 1), L ++ [l.take n], rfl, HO1, HB1, hH2, hl2.out.1, hl2.out.2⟩
end Go.Proofs.YtjabjcgomnjpcaaDoor.Zp
