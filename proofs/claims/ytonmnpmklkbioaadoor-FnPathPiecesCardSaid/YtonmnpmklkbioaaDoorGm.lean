/- 7 texts of this claim, one behind the other. -/
import Derived.Test.YtonmnpmklkbioaaDoorGg
import Derived.Test.YtonmnpmklkbioaaDoorGk
import Derived.Test.YtonmnpmklkbioaaDoorRows
import Derived.PinnedBridge
import Derived.Lib.LaidU8
import Derived.LaidLaws
import Derived.Stop.ErrReads
import Derived.ChangeVars
import Derived.JoinedOf
/- The walk of laws.FnNameEncode. -/
namespace Go.Proofs.YtonmnpmklkbioaaDoor.Given
open Go.RowKit Go.Proofs.YtonmnpmklkbioaaDoorW.PrintWords Go.Proofs.YtonmnpmklkbioaaDoorW.PrintLast Go.Proofs.YtonmnpmklkbioaaDoorW.PrintMore Go.Proofs.YtonmnpmklkbioaaDoor.PN
open Go.Proofs.YtonmnpmklkbioaaDoor.Pt (Ch Tk flat chars chs isBad sgn sof signed betw leftC rightC encC dotC hexc isC run Pr hd qt)
open Go.Proofs.YtonmnpmklkbioaaDoor.Sy (tl strB tl_size strB_tl tl_strB tkm tkm_ok hasB encO enc_is)
set_option linter.unusedVariables false
set_option linter.unusedSimpArgs false
/-- The library's two tables are there. -/
def Tabs (w : World) : Prop := Lib.Utf8Tabs (Laid.L_n197_ren.g 3) (Laid.L_n197_ren.g 4) w
theorem Tabs.below {w w' : World} (h : Tabs w) (hb : Below w.heap.size w w') : Tabs w' :=
  ⟨fun c hc => (hb.cell (World.block_lt_of_cell? w _ (h.1 c hc))).trans (h.1 c hc), fun i hi => ⟨(hb.cell (World.block_lt_of_cell? w _ (h.2 i hi).1)).trans (h.2 i hi).1, (hb.cell (World.block_lt_of_cell? w _ (h.2 i hi).2)).trans (h.2 i hi).2⟩⟩
theorem encO_one (s : ByteArray) : encO 1 s = s := by
  unfold encO Sy.frontO
  rfl
theorem encO_is (m : Int) (s : ByteArray) : encO m s = encN m s := by
  unfold encN
  by_cases h : m = 1
  · rw [if_pos h, h, encO_one]
  · rw [if_neg h, ← enc_is m s h, strB_tl]
theorem short_one (s : ByteArray) (hs : s.size ≤ 2147483647) : laws_encShort.f 3 [s] = some (decide ((s.size : Int) ≤ 65536)) := by
  have h1 : wrap64 (0 + (s.size : Int)) = (s.size : Int) := by unfold wrap64; omega
  have h2 : wrap64 ((0 : Int) + 1) = 1 := by unfold wrap64; rfl
  have h3 : rdOf ByteArray.empty [s] 0 = s := rfl
  unfold laws_encShort.f
  simp only [laws_encShort.l0, List.length_cons, List.length_nil, h3, h1, h2]
  rw [if_pos (by decide), if_pos (by decide), if_pos (by decide), if_neg (by decide)]
end Go.Proofs.YtonmnpmklkbioaaDoor.Given
/- What is written of a name is a name's characters; what is read back; impl.NameDecode; spec.NameOpen. -/
namespace Go.Proofs.YtonmnpmklkbioaaDoor.Given
open Go.RowKit Go.Proofs.YtonmnpmklkbioaaDoorW.PrintWords Go.Proofs.YtonmnpmklkbioaaDoorW.PrintLast Go.Proofs.YtonmnpmklkbioaaDoorW.PrintMore Go.Proofs.YtonmnpmklkbioaaDoor.PN
open Go.Proofs.YtonmnpmklkbioaaDoor.Pt (Ch Tk flat chars chs isBad sgn sof signed betw leftC rightC encC dotC hexc isC run Pr hd qt decC Open quoteOpen)
open Go.Proofs.YtonmnpmklkbioaaDoor.Sy (tl strB tl_size strB_tl tl_strB tkm tkm_ok hasB encO enc_is decO dec_is ErrOk)
set_option linter.unusedVariables false
set_option linter.unusedSimpArgs false
theorem pr_good {L : List Ch} : Pr L → ∀ c ∈ L, ∀ r, c = .g r → Pt.Good r := by
  induction L with
  | nil => intro _ c hc; cases hc
  | cons d L ih =>
    intro hp c hc r hr
    rcases List.mem_cons.1 hc with rfl | hc
    · subst hr; exact hp.1
    · exact ih (Pt.pr_right (L := [d]) hp) c hc r hr
/-- What NameDecode gives. -/
def decN (m : Int) (s : ByteArray) : ByteArray := if m = 1 then s else strB (flat (decC (tkm m) (chars (tl s))))
theorem decO_one (s : ByteArray) : decO 1 s = s := by
  unfold decO Sy.dfrontO
  rfl
theorem decO_is (m : Int) (s : ByteArray) : decO m s = decN m s := by
  unfold decN
  by_cases h : m = 1
  · rw [if_pos h, h, decO_one]
  · rw [if_neg h, ← dec_is m s h, strB_tl]
/-! how long -/
theorem flat_len_le : ∀ L : List Ch, (flat L).length ≤ 4 * L.length
  | [] => Nat.zero_le _
  | c :: l => by
    have ih := flat_len_le l
    rw [Pt.flat_cons, List.length_append, List.length_cons]
    have : c.by.length ≤ 4 := by
      cases c with
      | b x => exact (by decide : (1 : Nat) ≤ 4)
      | g r => exact Sy.rune_le _
    omega
theorem chars_len_le (l : List UInt8) : (chars l).length ≤ l.length := by
  have h := Pt.flat_chars' l
  have key : ∀ L : List Ch, L.length ≤ (flat L).length := by
    intro L
    induction L with
    | nil => exact Nat.zero_le _
    | cons c L ih =>
      rw [Pt.flat_cons, List.length_append, List.length_cons]
      have : 0 < c.by.length := List.length_pos_iff.2 (Sy.by_ne c)
      omega
  have := key (chars l)
  rw [h] at this
  exact this
theorem betw_len3 {k : Tk} (c : Ch) : (betw k c).length ≤ 3 := by
  cases c with
  | b x => rw [Pt.betw_b]; split <;> simp
  | g r =>
    rw [Pt.betw_g]
    split
    · simp
    · cases hs : signed k.t (.g r) with
      | none => simp
      | some t => rcases Pt.signed_cases hs with ⟨r', e, h1, rfl⟩ | ⟨r', a, e, h1, h2, h3, rfl⟩ <;> simp
theorem mid_len {k : Tk} : ∀ L : List Ch, (L.flatMap (betw k)).length ≤ 3 * L.length
  | [] => Nat.zero_le _
  | c :: L => by
    have := betw_len3 (k := k) c
    have := mid_len (k := k) L
    rw [List.flatMap_cons, List.length_append, List.length_cons]
    omega
theorem enc_len (k : Tk) (L : List Ch) : (encC k L).length ≤ 3 * L.length + 4 := by
  have hl : (leftC k L).1.length ≤ 2 ∧ (leftC k L).2.length ≤ L.length := by
    rcases Pt.left_cases k L with ⟨c, t, R, rfl, h1, h2⟩ | ⟨h1, _⟩
    · rw [h2]
      rcases Pt.signed_cases h1 with ⟨r', e, _, rfl⟩ | ⟨r', a, e, _, _, _, rfl⟩ <;> simp
    · rw [h1]; simp
  have hr : (rightC k (leftC k L).2).2.length ≤ 2 ∧ (rightC k (leftC k L).2).1.length ≤ (leftC k L).2.length := by
    generalize (leftC k L).2 = M
    rcases Pt.right_cases k M with ⟨N, c, t, rfl, h1, h2⟩ | ⟨h1, _⟩
    · rw [h2]
      rcases Pt.signed_cases h1 with ⟨r', e, _, rfl⟩ | ⟨r', a, e, _, _, _, rfl⟩ <;> simp
    · rw [h1]; simp
  have hm := mid_len (k := k) (rightC k (leftC k L).2).1
  unfold encC
  have hd : ∀ t, dotC k L = some t → t.length ≤ 4 := by
    intro t ht
    unfold dotC at ht
    split at ht
    · split at ht
      · cases ht; simp
      · split at ht
        · cases ht; simp
        · split at ht
          · cases ht; simp
          · split at ht
            · cases ht; simp
            · cases ht
    · cases ht
  cases hdd : dotC k L with
  | some t => have := hd t hdd; dsimp only; omega
  | none =>
    dsimp only
    simp only [List.length_append]
    omega
theorem encN_size (m : Int) (s : ByteArray) : (encN m s).size ≤ 12 * s.size + 16 := by
  unfold encN
  split
  · omega
  · rw [Sy.size_strB]
    have h1 := flat_len_le (encC (tkm m) (chars (tl s)))
    have h2 := enc_len (tkm m) (chars (tl s))
    have h3 := chars_len_le (tl s)
    rw [tl_size] at h3
    omega
/-! spec.NameOpen -/
theorem hasB_ne (m b : Int) : (Go.bits .and .u64 m b = 0) = (hasB m b = false) := by
  unfold hasB
  apply propext
  rw [bne_eq_false_iff_eq]
/-- A quote stands right ahead of a last character that the right takes. -/
def quoteB (m : Int) (L : List Ch) : Bool := match L.reverse with
  | .g r :: c :: _ => decide (c = qt) && (tkm m).r r
  | _ => false
end Go.Proofs.YtonmnpmklkbioaaDoor.Given
/- The walk of laws.FnNameBack. -/
namespace Go.Proofs.YtonmnpmklkbioaaDoor.Given
open Go.RowKit Go.Proofs.YtonmnpmklkbioaaDoorW.PrintWords Go.Proofs.YtonmnpmklkbioaaDoorW.PrintLast Go.Proofs.YtonmnpmklkbioaaDoorW.PrintMore Go.Proofs.YtonmnpmklkbioaaDoor.PN
open Go.Proofs.YtonmnpmklkbioaaDoor.Sy (tl strB tl_size strB_tl tl_strB tkm tkm_ok hasB ErrOk)
set_option linter.unusedVariables false
set_option linter.unusedSimpArgs false
/-- What the laws ask of a world. -/
structure Wo (w : World) : Prop where
  tabs : Tabs w
  err : ErrOk w
theorem Wo.below {w w' : World} (h : Wo w) (hb : Below w.heap.size w w') : Wo w' := ⟨h.tabs.below hb, h.err.below hb⟩
theorem short_cell (s : ByteArray) (w : World) (hs : s.size ≤ 2147483647) : Calls Tryd.prog 16 #[.slice (some ⟨w.heap.size, 0, none⟩) 1 1] (w.alloc (.cells #[.string s] 9)) fun e w' => e = .returned (.bool (decide ((s.size : Int) ≤ 65536))) ∧ Below w.heap.size w w' := by
  have hbw : Below w.heap.size w (w.alloc (.cells #[.string s] 9)) := (Below.refl _ w).alloc (Nat.le_refl _) _
  have hrow : Kd.C Kd.string (w.alloc (.cells #[.string s] 9)) (some ⟨w.heap.size, 0, none⟩) [s].length [s] := by
    refine ⟨rfl, by simp, fun _ => ⟨_, rfl, fun j p hj => ?_⟩⟩
    match j, hj with
    | 0, hj =>
      cases hj
      exact ⟨[.string s], rfl, rfl, fun i u hu => by
        match i, hu with
        | 0, hu => cases hu; simp [Addr.add]⟩
  refine (laws_encShort.calls 3 (some ⟨w.heap.size, 0, none⟩) 1 [s] _ _ hrow (Nat.le_refl 1) (short_one s hs)).mono ?_
  rintro e w' ⟨rfl, n, rfl⟩
  exact ⟨rfl, below_drewN' hbw n⟩
end Go.Proofs.YtonmnpmklkbioaaDoor.Given
/- The walk of laws.FnNameAgain. -/
namespace Go.Proofs.YtonmnpmklkbioaaDoor.Given
open Go.RowKit Go.Proofs.YtonmnpmklkbioaaDoorW.PrintWords Go.Proofs.YtonmnpmklkbioaaDoorW.PrintLast Go.Proofs.YtonmnpmklkbioaaDoorW.PrintMore Go.Proofs.YtonmnpmklkbioaaDoor.PN
open Go.Proofs.YtonmnpmklkbioaaDoor.Pt (Ch Tk flat chars signed betw leftC rightC encC dotC Pr)
open Go.Proofs.YtonmnpmklkbioaaDoor.Sy (tl strB tl_size strB_tl tl_strB tkm tkm_ok hasB ErrOk)
set_option linter.unusedVariables false
set_option linter.unusedSimpArgs false
end Go.Proofs.YtonmnpmklkbioaaDoor.Given
/- The walk of laws.FnNameStays. -/
namespace Go.Proofs.YtonmnpmklkbioaaDoor.Given
open Go.RowKit Go.Proofs.YtonmnpmklkbioaaDoorW.PrintWords Go.Proofs.YtonmnpmklkbioaaDoorW.PrintLast Go.Proofs.YtonmnpmklkbioaaDoorW.PrintMore Go.Proofs.YtonmnpmklkbioaaDoor.PN
open Go.Proofs.YtonmnpmklkbioaaDoor.Pt (Ch Tk flat chars signed betw leftC rightC encC dotC Pr qt sof decC dleft dright dmid undotC lsign)
open Go.Proofs.YtonmnpmklkbioaaDoor.Sy (tl strB tl_size strB_tl tl_strB tkm tkm_ok hasB ErrOk)
set_option linter.unusedVariables false
set_option linter.unusedSimpArgs false
/-! encNothing -/
def sgC : Ch → Int
  | .g r => sofI r
  | .b _ => -1
theorem signOf_un (k : Nat) {c : Ch} (h : ∀ r, c = .g r → r ≤ 1114111) : spec_SignOf.f (k + 2) (un c).f1 = some (sgC c) := by
  cases c with
  | g r => exact signOf_is k (h r rfl)
  | b x => exact signOf_neg k
/-! what has nothing to do with a mask stays -/
end Go.Proofs.YtonmnpmklkbioaaDoor.Given
/- The condition that the two tables of unicode/utf8 read as the program's text lays them gives what Encode's walk asks. -/
namespace Go.Proofs.YtonmnpmklkbioaaDoor.Given
open Go.RowKit
set_option linter.unusedVariables false
theorem xU : Go.Proofs.U8Extra Tryd.prog Laid.L_n197_ren := ⟨by kernel_rfl, by kernel_rfl, by kernel_rfl, by kernel_rfl, by kernel_rfl, by kernel_rfl, by kernel_rfl⟩
theorem accept_is : (Rows.laid_unicode_utf8_acceptRanges : DataW Unit) = Lib.acceptData := by kernel_rfl
theorem first_is : Rows.laid_unicode_utf8_first = Lib.firstData := Pinned.utf8First_eq
theorem tabs_of {W : World} {l : List (String × DataW Unit)} (h : laidMet Tryd.prog l W) (h1 : ("unicode/utf8.first", Rows.laid_unicode_utf8_first) ∈ l) (h2 : ("unicode/utf8.acceptRanges", (Rows.laid_unicode_utf8_acceptRanges : DataW Unit)) ∈ l) : Tabs W :=
  Go.Proofs.utf8Tabs_of_reads { Laid.L_n197 with } xU (by rw [← first_is]; exact Lib.laidMet.reads h h1) (by rw [← accept_is]; exact Lib.laidMet.reads h h2)
end Go.Proofs.YtonmnpmklkbioaaDoor.Given
/- The condition of the rows gives what the laws' walks ask: the two tables, and an error in strconv.ErrSyntax. -/
namespace Go.Proofs.YtonmnpmklkbioaaDoor.Given
open Go.RowKit
set_option linter.unusedVariables false
theorem err_of {W : World} {l : List (String × DataW Unit)} (h : laidMet Tryd.prog l W) (h1 : ("strconv.ErrSyntax", (Rows.laid_strconv_ErrSyntax : DataW Unit)) ∈ l) : Sy.ErrOk W := by
  obtain ⟨g0, t0, cs0, f0, p0, hg0, ht0, hv0, hd0⟩ := Lib.laidMet.reads h h1
  obtain rfl : g0 = 3 := (Option.some.inj (hg0.symm.trans (by kernel_rfl)))
  obtain rfl : t0 = 74 := (Option.some.inj (ht0.symm.trans (by kernel_rfl)))
  obtain ⟨l0⟩ := cs0
  obtain ⟨f1, u, v, hl, hn, _⟩ := iface_of_trod Tryd.underlying74 hd0
  refine ⟨.iface u v, ?_, .inr ⟨u, v, rfl⟩⟩
  have hl' : l0 = [.iface u v] := hl
  subst hl'
  simpa using World.var?_cell hg0 hv0 0
theorem wo_of {W : World} {l : List (String × DataW Unit)} (h : laidMet Tryd.prog l W) (h1 : ("unicode/utf8.first", Rows.laid_unicode_utf8_first) ∈ l) (h2 : ("unicode/utf8.acceptRanges", (Rows.laid_unicode_utf8_acceptRanges : DataW Unit)) ∈ l) (h3 : ("strconv.ErrSyntax", (Rows.laid_strconv_ErrSyntax : DataW Unit)) ∈ l) : Wo W :=
  ⟨tabs_of h h1 h2, err_of h h3⟩
end Go.Proofs.YtonmnpmklkbioaaDoor.Given
