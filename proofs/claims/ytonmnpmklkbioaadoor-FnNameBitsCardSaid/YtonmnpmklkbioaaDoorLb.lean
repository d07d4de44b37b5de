/- The walk of laws.FnNameBits. -/
import Derived.Test.YtonmnpmklkbioaaDoorJo
import Derived.Test.YtonmnpmklkbioaaDoorLe
import Derived.Test.YtonmnpmklkbioaaDoorPNx1
namespace Go.Proofs.YtonmnpmklkbioaaDoor.Given
open Go.RowKit Go.Proofs.YtonmnpmklkbioaaDoorW.PrintWords Go.Proofs.YtonmnpmklkbioaaDoorW.PrintLast Go.Proofs.YtonmnpmklkbioaaDoorW.PrintMore Go.Proofs.YtonmnpmklkbioaaDoor.PN
open Go.Proofs.YtonmnpmklkbioaaDoor.Pt (Ch Tk flat chars betw signed sgn)
open Go.Proofs.YtonmnpmklkbioaaDoor.Sy (tl strB tl_size strB_tl tl_strB tkm hasB bitsOf)
set_option linter.unusedVariables false
set_option linter.unusedSimpArgs false

/-- Whether a character of ASCII between two letters is written as itself. -/
def eqB (m : Int) (c : Nat) : Bool := (encN m (xs [UInt8.ofNat c])).toList == (xs [UInt8.ofNat c]).toList
theorem chars_one {c : Nat} (h : c < 128) : chars [UInt8.ofNat c] = [.g c] := by
  have hg : Pt.Good c := by unfold Pt.Good; omega
  have e : Lib.encodeRune ((c : Nat) : Int) = [UInt8.ofNat c] := by
    rcases Pt.good_small hg with h2 | h2
    · exact h2.2.2
    · omega
  have h1 := Pt.chars_flat [.g c] ⟨hg, trivial⟩
  have h2 : flat [.g c] = [UInt8.ofNat c] := by
    show Lib.encodeRune _ ++ [] = _
    rw [e]; rfl
  rw [h2] at h1
  exact h1
theorem xs_inj {a b : List UInt8} : ((xs a).toList == (xs b).toList) = decide (a = b) := by
  rw [Bool.eq_iff_iff, beq_iff_eq, decide_eq_true_eq, ByteArray.toList_eq, ByteArray.toList_eq]
  show tl (strB _) = tl (strB _) ↔ _
  rw [tl_strB, tl_strB]
  constructor
  · intro h
    have := (List.cons.inj h).2
    exact (List.append_inj' this rfl).1
  · intro h; rw [h]
theorem eqB_is {m : Int} {c : Nat} (h0 : 0 < c) (h : c < 128) (hm : m ≠ 1) : eqB m c = !((bitsOf c).any (hasB m)) := by
  unfold eqB
  rw [enc_mid, xs_inj]
  unfold midE
  rw [if_neg hm, chars_one h]
  have hb : betw (tkm m) (.g c) = if (bitsOf c).any (hasB m) = true then [.g (sgn c)] else [.g c] := by
    rw [Pt.betw_g, if_neg (by omega), Pt.signed_g, Pt.sof_none (by omega)]
    have ht : (tkm m).t c = (Nat.beq c 0 || (bitsOf c).any (hasB m)) := rfl
    rw [ht, beq_ne (by omega), Bool.false_or]
    cases (bitsOf c).any (hasB m) <;> rfl
  have hfm : ([Ch.g c].flatMap (betw (tkm m))) = betw (tkm m) (.g c) := by rw [List.flatMap_cons, List.flatMap_nil, List.append_nil]
  have hfl : ∀ r : Nat, flat [.g r] = Lib.encodeRune (r : Int) := fun r => by show Lib.encodeRune _ ++ [] = _; rw [List.append_nil]
  rw [Bool.eq_iff_iff, decide_eq_true_eq, Bool.not_eq_true', hfm, hb]
  cases hx : (bitsOf c).any (hasB m) with
  | false =>
    rw [if_neg (by simp), hfl]
    have e : Lib.encodeRune ((c : Nat) : Int) = [UInt8.ofNat c] := by
      rcases Pt.good_small (show Pt.Good c by unfold Pt.Good; omega) with h2 | h2
      · exact h2.2.2
      · omega
    simp [e]
  | true =>
    rw [if_pos rfl, hfl]
    have hs := Pt.sgn_ge c
    have hl : 2 ≤ (Lib.encodeRune ((sgn c : Nat) : Int)).length := by
      rcases Pt.good_small (Pt.good_sgn h) with h2 | h2
      · omega
      · exact h2.1
    constructor
    · intro e
      rw [e] at hl
      simp at hl
    · intro e; cases e
/-- The bits that have a name. -/
def NB : List Int := (List.range 29).map fun i => ((2 ^ i : Nat) : Int)
set_option maxRecDepth 100000 in
theorem nb_tab : ((List.range 128).all fun c => (bitsOf c).all (fun b => NB.contains b && !(b == 1)) && NB.all fun b => b == 1 || ((bitsOf c).any (hasB b) == (bitsOf c).contains b)) = true := by kernel_rfl
/-- What one bit asks. -/
def okB (m : Int) (c : Nat) (b : Int) : Bool := !(hasB m b && !(b == 1)) || eqB b c
theorem all_bits {m : Int} {c : Nat} (h0 : 0 < c) (h : c < 128) (hm : m ≠ 1) : eqB m c = NB.all (okB m c) := by
  have ht := List.all_eq_true.1 nb_tab c (List.mem_range.2 h)
  rw [Bool.and_eq_true] at ht
  obtain ⟨h1, h2⟩ := ht
  rw [eqB_is h0 h hm, Bool.eq_iff_iff, Bool.not_eq_true', List.any_eq_false, List.all_eq_true]
  constructor
  · intro hn b hb
    unfold okB
    by_cases hb1 : b = 1
    · subst hb1; simp
    · cases hm2 : hasB m b with
      | false => simp
      | true =>
        have h3 := List.all_eq_true.1 h2 b hb
        have hbe : (b == 1) = false := by rw [beq_eq_false_iff_ne]; exact hb1
        rw [hbe, Bool.false_or, beq_iff_eq] at h3
        rw [eqB_is h0 h hb1, h3]
        have : ¬ b ∈ bitsOf c := fun hc => hn b hc hm2
        simp [this]
  · intro ha b hb
    have h3 := List.all_eq_true.1 h1 b hb
    rw [Bool.and_eq_true, List.contains_iff_mem, Bool.not_eq_true', beq_eq_false_iff_ne] at h3
    have h4 := ha b h3.1
    unfold okB at h4
    have h5 := List.all_eq_true.1 h2 b h3.1
    have hbe : (b == 1) = false := by rw [beq_eq_false_iff_ne]; exact h3.2
    rw [hbe, Bool.false_or, beq_iff_eq] at h5
    rw [hbe, eqB_is h0 h h3.2, h5] at h4
    intro hm2
    rw [hm2] at h4
    simp [hb] at h4
def stB (m : Int) (c i : Nat) : Bool := (NB.take i).all (okB m c)
theorem st_next {m : Int} {c i : Nat} (h : i < 29) : stB m c (i + 1) = (stB m c i && okB m c (NB.getD i 0)) := by
  unfold stB
  have hl : i < NB.length := by show i < ((List.range 29).map _).length; rw [List.length_map, List.length_range]; exact h
  rw [← List.take_append_getElem hl, List.all_append]
  have e : NB.getD i 0 = NB[i] := by rw [List.getD_eq_getElem?_getD, List.getElem?_eq_getElem hl]; rfl
  rw [e]
  simp
theorem st_end {m : Int} {c : Nat} : stB m c 29 = NB.all (okB m c) := by
  unfold stB
  rw [List.take_of_length_le (by show ((List.range 29).map _).length ≤ 29; rw [List.length_map, List.length_range]; exact Nat.le_refl _)]
set_option maxRecDepth 100000 in
theorem pipe_is : encN 1024 ⟨#[124]⟩ = ⟨#[239, 189, 156]⟩ := by decide +kernel
theorem conv_one (W : World) (A : Int) : (convert 23 9 (.slice (some ⟨W.heap.size, 0, none⟩) 1 1)).run Tryd.prog (W.alloc (.cells #[.int .u8 A] 5)) = .ok (.string (strOfNums [A])) (W.alloc (.cells #[.int .u8 A] 5)) := by
  refine run_convert_bytes_arg _ 23 5 Tryd.underlying23 Tryd.underlying5 W.heap.size 0 1 1 [A] rfl (fun i hi => ?_) 9 Tryd.underlying9
  match i, hi with
  | 0, _ => simp

theorem xs_one (c : Nat) : (⟨#[120]⟩ : ByteArray) ++ strOfNums [(c : Int)] ++ ⟨#[120]⟩ = xs [UInt8.ofNat c] := by
  apply ByteArray.ext
  rw [ByteArray.data_append, ByteArray.data_append]
  apply Array.toList_inj.1
  simp [strOfNums, xs, strB]
theorem names_are : ∃ r, spec_MaskNames.f = some r ∧ r.map S27.f0 = NB := ⟨_, rfl, by kernel_rfl⟩
set_option maxHeartbeats 4000000 in
set_option maxRecDepth 100000 in
theorem law3 (m : Int) (c : Int) (w : World) (hc0 : 0 ≤ c) (hc1 : c < 256) (hT : Tabs w) : Calls Tryd.prog 3 #[.int .u64 m, .int .u8 c] w fun e w' => e = .returned (.bool true) ∧ Below w.heap.size w w' := by
  have hbw : ∀ os, Below w.heap.size w (w.alloc os) := fun os => (Below.refl _ w).alloc (Nat.le_refl _) _
  by_cases g1 : c ≥ 128
  · have q1 : decide (c ≥ 128) = true := decide_eq_true g1
    go_enter Tryd.func3, Tryd.ntmps3
    go_wp2
    go_ret
    exact ⟨rfl, Below.refl _ w⟩
  by_cases g2 : c = 0
  · subst g2
    go_enter Tryd.func3, Tryd.ntmps3
    go_wp2
    go_ret
    exact ⟨rfl, Below.refl _ w⟩
  by_cases g3 : m = 1
  · subst g3
    have q1 : decide (c ≥ 128) = false := decide_eq_false g1
    have q2 : (c == 0) = false := beq_eq_false_iff_ne.2 g2
    go_enter Tryd.func3, Tryd.ntmps3
    go_wp2
    go_ret
    exact ⟨rfl, Below.refl _ w⟩
  have q1 : decide (c ≥ 128) = false := decide_eq_false g1
  have q2 : (c == 0) = false := beq_eq_false_iff_ne.2 g2
  have q3 : (m == 1) = false := beq_eq_false_iff_ne.2 g3
  obtain ⟨n, rfl⟩ : ∃ n : Nat, c = n := ⟨c.toNat, by omega⟩
  have hall := all_bits (m := m) (c := n) (by omega) (by omega) g3
  obtain ⟨names, hnm, hnb⟩ := names_are
  have hnl : names.length = 29 := by
    have := congrArg List.length hnb
    rw [List.length_map] at this
    rw [this]
    show ((List.range 29).map _).length = 29
    rw [List.length_map, List.length_range]
  have cM := fun W => spec_MaskNames.calls names W hnm
  have hconv := conv_one w (n : Int)
  have hs1 : (strOfNums [(n : Int)]).size = 1 := by rw [strOfNums_size]; rfl
  have hx := xs_one n
  obtain ⟨S1, hS1⟩ : ∃ S1, strOfNums [(n : Int)] = S1 := ⟨_, rfl⟩
  rw [hS1] at hconv hs1 hx
  have s1 : ¬ 9223372036854775807 < 1 + S1.size := by omega
  have s2 : ¬ 9223372036854775807 < 1 + S1.size + 1 := by omega
  obtain ⟨X, hX⟩ : ∃ X, xs [UInt8.ofNat n] = X := ⟨_, rfl⟩
  rw [hX] at hx
  have hXs : X.size ≤ 17592186044 := by rw [← hX, xs_size]; simp
  have heq : ∀ b, ((encN b X).toList == X.toList) = eqB b n := fun b => by rw [← hX]; rfl
  have c15 := fun b W h => enc15 b X W hXs h
  clear hS1 hX g1 g2 g3 hc0 hc1
  go_enter Tryd.func3, Tryd.ntmps3
  go_wp2_with (go_at_call 14; refine (cM _).mono ?_; rintro e w1 ⟨v1, rfl, hR1, hb1⟩; obtain ⟨A1, c1, rfl, hc1, hC1⟩ := Kd.R_reads hR1)
  have hB1 : Below w.heap.size w w1 := (hbw _).trans (hb1.mono (hbw _).size)
  clear hb1 hR1 cM hconv s1 s2 hs1 hnm
  go_loopg [6, 26] 29 (fun gf s6 s26 wx => ∃ i : Nat, s6 = .bool (stB m n i) ∧ s26 = .int .i64 (i : Int) ∧ i ≤ 29 ∧ 29 ≤ i + gf ∧ Below w1.heap.size w1 wx)
  case atStart => exact ⟨0, rfl, rfl, by omega, by omega, Below.refl _ _⟩
  case round =>
    obtain ⟨i, rfl, rfl, hi, hfu, hbx⟩ := hrel
    have hBx : Below w.heap.size w wr := hB1.trans (hbx.mono hB1.size)
    have hTx : Tabs wr := hT.below hBx
    by_cases hin : i = 29
    · subst hin
      have c2 := fun W h => enc15 1024 ⟨#[124]⟩ W (by decide) h
      rw [pipe_is] at c2
      have hm := heq m
      have cm := fun W h => c15 m W h
      obtain ⟨E, hE⟩ : ∃ E, encN m X = E := ⟨_, rfl⟩
      rw [hE] at cm hm
      rw [hall, ← st_end] at hm
      obtain ⟨b, hb⟩ : ∃ b, stB m n 29 = b := ⟨_, rfl⟩
      rw [hb] at hm ⊢
      clear hall c15 heq hE hb hfu hi hC1 hnb hXs
      have hfin : (b == b) = true := beq_self_eq_true b
      go_wp2_with (first | (go_at_call 15; (with_reducible refine (cm _ hTx).mono ?_); rintro e w2 ⟨rfl, hb2⟩; have hT2 := hTx.below hb2) | (go_at_call 15; refine (c2 _ hT2).mono ?_; rintro e w3 ⟨rfl, hb3⟩))
      go_ret
      exact ⟨rfl, (hBx.trans (hb2.mono hBx.size)).trans (hb3.mono (Nat.le_trans hBx.size hb2.size))⟩
    · obtain ⟨g', rfl⟩ : ∃ g', gk = g' + 1 := ⟨gk - 1, by omega⟩
      have hi29 : i < 29 := by omega
      have hnext := st_next (m := m) (c := n) hi29
      have hCx := Kd.C_below hC1 hbx
      have hil : (i : Int) < (names.length : Int) := by rw [hnl]; omega
      have h0i : (0 : Int) ≤ (i : Int) := by omega
      obtain ⟨ad, rfl, y0, y1⟩ := at_T27 hCx (i : Int) h0i hil
      simp only [Int.toNat_natCast] at y0 y1
      have hrd : (rd_T27 names (i : Int)).f0 = NB.getD i 0 := by
        rw [← hnb]
        have hl : i < names.length := by omega
        simp [rd_T27, hl]
      rw [hrd] at y0
      obtain ⟨N1, hN1⟩ : ∃ x, (rd_T27 names (i : Int)).f1 = x := ⟨_, rfl⟩
      rw [hN1] at y1
      obtain ⟨b, hb⟩ : ∃ b, NB.getD i 0 = b := ⟨_, rfl⟩
      rw [hb] at y0 hnext
      have hil29 : (i : Int) < 29 := by omega
      have hg2 : 29 ≤ i + 1 + g' := by omega
      have hbxa : ∀ o, Below w1.heap.size w1 (wr.alloc o) := fun o => hbx.alloc hbx.size o
      have hTa : ∀ o, Tabs (wr.alloc o) := fun o => hTx.below (below_alloc (Below.refl _ wr) o)
      have cb := fun W h => c15 b W h
      have hE0 := heq b
      obtain ⟨E, hE⟩ : ∃ E, encN b X = E := ⟨_, rfl⟩
      rw [hE] at cb hE0
      obtain ⟨st, hst⟩ : ∃ st, stB m n i = st := ⟨_, rfl⟩
      rw [hst] at hnext
      rw [hst]
      have hw1 : wrap64 ((i : Int) + 1) = ((i + 1 : Nat) : Int) := w64n (p := i) (k := 1) (by omega)
      clear hN1 hrd hb hE hst hall heq c15 hnb hC1 hCx hfu hi hXs
      have q5 := Lib.hid hi29; have q6 := Lib.hid hg2
      clear hi29 hg2 hin hil
      unfold okB at hnext
      cases hmb : hasB m b with
      | true =>
        have hmb' : (Go.bits .and .u64 m b != 0) = true := hmb
        rw [hmb] at hnext
        cases hb1 : (b == 1) with
        | true =>
          have hnb1 : (b != 1) = false := by rw [bne, hb1]; rfl
          rw [hb1] at hnext
          simp only [Bool.not_true, Bool.and_false, Bool.not_false, Bool.true_or, Bool.and_true] at hnext
          go_wp2
          go_roundg g'
          case measure => exact Nat.lt_succ_self _
          case rel => exact ⟨i + 1, by rw [hnext], by first | rfl | rw [hw1], q5.out, q6.out, hbxa _⟩
        | false =>
          have hnb1 : (b != 1) = true := by rw [bne, hb1]; rfl
          rw [hb1] at hnext
          simp only [Bool.not_true, Bool.and_true, Bool.not_false, Bool.false_or] at hnext
          cases st with
          | false =>
            rw [Bool.false_and] at hnext
            go_wp2
            go_roundg g'
            case measure => exact Nat.lt_succ_self _
            case rel => exact ⟨i + 1, by rw [hnext], by first | rfl | rw [hw1], q5.out, q6.out, hbxa _⟩
          | true =>
            rw [Bool.true_and] at hnext
            go_wp2_with (go_at_call 15; (with_reducible refine (cb _ (hTa _)).mono ?_); rintro e w2 ⟨rfl, hb2⟩)
            go_roundg g'
            case measure => exact Nat.lt_succ_self _
            case rel => exact ⟨i + 1, by rw [hnext], by first | rfl | rw [hw1], q5.out, q6.out, (hbxa _).trans (hb2.mono (hbxa _).size)⟩
      | false =>
        have hmb' : (Go.bits .and .u64 m b != 0) = false := hmb
        rw [hmb] at hnext
        simp only [Bool.false_and, Bool.not_false, Bool.true_or, Bool.and_true] at hnext
        go_wp2
        go_roundg g'
        case measure => exact Nat.lt_succ_self _
        case rel => exact ⟨i + 1, by rw [hnext], by first | rfl | rw [hw1], q5.out, q6.out, hbxa _⟩
end Go.Proofs.YtonmnpmklkbioaaDoor.Given
