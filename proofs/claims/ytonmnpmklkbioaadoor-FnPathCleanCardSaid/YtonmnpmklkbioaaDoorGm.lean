/- 7 texts of this claim, one behind the other. -/
import Derived.Test.YtonmnpmklkbioaaDoorGg
import Derived.Test.YtonmnpmklkbioaaDoorGk
import Derived.Test.YtonmnpmklkbioaaDoorGl
import Derived.Test.YtonmnpmklkbioaaDoorRows
import Derived.PinnedBridge
import Derived.Lib.LaidU8
import Derived.LaidLaws
import Derived.Stop.ErrReads
import Derived.ChangeVars
import Derived.JoinedOf
/- The walk of laws.FnNameEncode. -/
namespace Go.Proofs.YtonmnpmklkbioaaDoor.Given
open Go.RowKit Go.Proofs.YtonmnpmklkbioaaDoorW.PrintWords Go.Proofs.YtonmnpmklkbioaaDoorW.PrintLast Go.Proofs.YtonmnpmklkbioaaDoorW.PrintMore Go.Proofs.YtonmnpmklkbioaaDoor.PN
open Go.Proofs.YtonmnpmklkbioaaDoor.Pt (Ch Tk flat chars chs isBad sgn sof signed betw leftC rightC encC dotC hexc isC run Pr hd qt)
open Go.Proofs.YtonmnpmklkbioaaDoor.Sy (tl strB tl_size strB_tl tl_strB tkm tkm_ok hasB encO enc_is)
set_option linter.unusedVariables false
set_option linter.unusedSimpArgs false
/-- The library's two tables are there. -/
def Tabs (w : World) : Prop := Lib.Utf8Tabs (Laid.L_n197_ren.g 3) (Laid.L_n197_ren.g 4) w
theorem Tabs.below {w w' : World} (h : Tabs w) (hb : Below w.heap.size w w') : Tabs w' :=
  ⟨fun c hc => (hb.cell (World.block_lt_of_cell? w _ (h.1 c hc))).trans (h.1 c hc), fun i hi => ⟨(hb.cell (World.block_lt_of_cell? w _ (h.2 i hi).1)).trans (h.2 i hi).1, (hb.cell (World.block_lt_of_cell? w _ (h.2 i hi).2)).trans (h.2 i hi).2⟩⟩
theorem encO_one (s : ByteArray) : encO 1 s = s := by
  unfold encO Sy.frontO
  rfl
theorem encO_is (m : Int) (s : ByteArray) : encO m s = encN m s := by
  unfold encN
  by_cases h : m = 1
  · rw [if_pos h, h, encO_one]
  · rw [if_neg h, ← enc_is m s h, strB_tl]
set_option maxHeartbeats 1000000 in
/-- impl.NameEncode. -/
theorem enc15 (m : Int) (s : ByteArray) (w : World) (hs : s.size ≤ 17592186044) (hT : Tabs w) :
    Calls Tryd.prog 15 #[.int .u64 m, .string s] w fun e w' => e = .returned (.string (encN m s)) ∧ Below w.heap.size w w' := by
  have c := Sy.calls35 m s w hs hT
  rw [encO_is] at c
  obtain ⟨t, ht⟩ : ∃ t, encN m s = t := ⟨_, rfl⟩
  rw [ht] at c ⊢
  clear ht
  go_enter Tryd.func15, Tryd.ntmps15
  go_wp2_with (go_at_call 35; refine c.mono ?_; rintro e w1 ⟨rfl, hb⟩)
  go_ret
  exact ⟨rfl, hb⟩
end Go.Proofs.YtonmnpmklkbioaaDoor.Given
/- What is written of a name is a name's characters; what is read back; impl.NameDecode; spec.NameOpen. -/
namespace Go.Proofs.YtonmnpmklkbioaaDoor.Given
open Go.RowKit Go.Proofs.YtonmnpmklkbioaaDoorW.PrintWords Go.Proofs.YtonmnpmklkbioaaDoorW.PrintLast Go.Proofs.YtonmnpmklkbioaaDoorW.PrintMore Go.Proofs.YtonmnpmklkbioaaDoor.PN
open Go.Proofs.YtonmnpmklkbioaaDoor.Pt (Ch Tk flat chars chs isBad sgn sof signed betw leftC rightC encC dotC hexc isC run Pr hd qt decC Open quoteOpen)
open Go.Proofs.YtonmnpmklkbioaaDoor.Sy (tl strB tl_size strB_tl tl_strB tkm tkm_ok hasB encO enc_is decO dec_is ErrOk)
set_option linter.unusedVariables false
set_option linter.unusedSimpArgs false
theorem goods_signed {k : Tk} {P : Nat → Bool} (hP : ∀ c, P c = true → c < 128) {c : Ch} {t : List Ch} (h : signed P c = some t) (hc : ∀ r, c = .g r → Pt.Good r) : t ≠ [] ∧ ∀ d ∈ t, ∃ q, d = .g q ∧ Pt.Good q := by
  rcases Pt.signed_cases h with ⟨r, rfl, h1, rfl⟩ | ⟨r, a, rfl, h1, h2, h3, rfl⟩
  · refine ⟨by simp, fun d hd => ?_⟩
    simp only [List.mem_cons, List.not_mem_nil, or_false] at hd
    subst hd
    exact ⟨_, rfl, Pt.good_sgn (hP r h1)⟩
  · refine ⟨by simp, fun d hd => ?_⟩
    simp only [List.mem_cons, List.not_mem_nil, or_false] at hd
    rcases hd with rfl | rfl
    · exact ⟨_, rfl, Pt.good_qt⟩
    · exact ⟨_, rfl, hc _ rfl⟩
theorem pr_good {L : List Ch} : Pr L → ∀ c ∈ L, ∀ r, c = .g r → Pt.Good r := by
  induction L with
  | nil => intro _ c hc; cases hc
  | cons d L ih =>
    intro hp c hc r hr
    rcases List.mem_cons.1 hc with rfl | hc
    · subst hr; exact hp.1
    · exact ih (Pt.pr_right (L := [d]) hp) c hc r hr
theorem ok_betw {k : Tk} (hk : k.Ok) : Pt.Ok (betw k) := by
  refine ⟨fun r hr => ⟨Pt.betw_ne k _, ?_⟩, fun x => ?_⟩
  · rw [Pt.betw_g]
    split
    · intro c hc
      simp only [List.mem_cons, List.not_mem_nil, or_false, or_self] at hc
      subst hc
      exact ⟨_, rfl, Pt.good_qt⟩
    · cases hs : signed k.t (.g r) with
      | none =>
        intro c hc
        simp only [Option.getD_none, List.mem_cons, List.not_mem_nil, or_false] at hc
        subst hc
        exact ⟨r, rfl, hr⟩
      | some t => exact (goods_signed (k := k) hk.t hs (fun r' e => by cases e; exact hr)).2
  · rw [Pt.betw_b]
    split
    · refine .inr ⟨by simp, fun c hc => ?_⟩
      have hx := x.toNat_lt
      simp only [List.mem_cons, List.not_mem_nil, or_false] at hc
      rcases hc with rfl | rfl | rfl
      · exact ⟨_, rfl, Pt.good_qt⟩
      · exact ⟨_, rfl, .inl (by have := Pt.hexc_low (x.toNat / 16) (by omega); omega)⟩
      · exact ⟨_, rfl, .inl (by have := Pt.hexc_low (x.toNat % 16) (by omega); omega)⟩
    · exact .inl rfl
theorem run_good_list {L : List Ch} (h : ∀ c ∈ L, ∃ q, c = .g q ∧ Pt.Good q) : run (flat L) = [] := by
  by_cases hL : L = []
  · subst hL; rfl
  · have := Pt.run_goods (M := []) hL h
    rw [List.append_nil] at this
    exact this
theorem pr_list {L : List Ch} (h : ∀ c ∈ L, ∃ q, c = .g q ∧ Pt.Good q) : Pr L := by
  have := Pt.pr_goods (M := []) h trivial
  rw [List.append_nil] at this
  exact this
theorem pr_enc {k : Tk} (hk : k.Ok) {L : List Ch} (hp : Pr L) : Pr (encC k L) := by
  unfold encC
  have hdot : ∀ t, dotC k L = some t → Pr t := by
    intro t ht
    unfold dotC at ht
    have g1 : Pt.Good 65294 := .inr ⟨by omega, by omega⟩
    split at ht
    · split at ht
      · cases ht; exact ⟨g1, trivial⟩
      · split at ht
        · cases ht; exact ⟨g1, g1, trivial⟩
        · split at ht
          · cases ht; exact ⟨Pt.good_qt, g1, trivial⟩
          · split at ht
            · cases ht; exact ⟨Pt.good_qt, g1, Pt.good_qt, g1, trivial⟩
            · cases ht
    · cases ht
  cases hd : dotC k L with
  | some t => exact hdot t hd
  | none =>
    dsimp only
    have hl : (∀ c ∈ (leftC k L).1, ∃ q, c = .g q ∧ Pt.Good q) ∧ Pr (leftC k L).2 := by
      rcases Pt.left_cases k L with ⟨c, t, R, rfl, h1, h2⟩ | ⟨h1, _⟩
      · rw [h2]
        exact ⟨(goods_signed (k := k) hk.l h1 (fun r e => pr_good hp c List.mem_cons_self r e)).2, Pt.pr_right (L := [c]) hp⟩
      · rw [h1]
        exact ⟨fun c hc => (by cases hc), hp⟩
    have hr : (∀ c ∈ (rightC k (leftC k L).2).2, ∃ q, c = .g q ∧ Pt.Good q) ∧ Pr (rightC k (leftC k L).2).1 := by
      have hp2 := hl.2
      generalize (leftC k L).2 = M at hp2 ⊢
      rcases Pt.right_cases k M with ⟨N, c, t, rfl, h1, h2⟩ | ⟨h1, _⟩
      · rw [h2]
        exact ⟨(goods_signed (k := k) hk.r h1 (fun r e => pr_good hp2 c (List.mem_append_right _ List.mem_cons_self) r e)).2, Pt.pr_left hp2⟩
      · rw [h1]
        exact ⟨fun c hc => (by cases hc), hp2⟩
    rw [List.append_assoc]
    exact Pt.pr_goods hl.1 (Pt.pr_append (Pt.pr_subst (ok_betw hk) _ hr.2) (pr_list hr.1) (run_good_list hr.1))
/-- What NameDecode gives. -/
def decN (m : Int) (s : ByteArray) : ByteArray := if m = 1 then s else strB (flat (decC (tkm m) (chars (tl s))))
theorem decO_one (s : ByteArray) : decO 1 s = s := by
  unfold decO Sy.dfrontO
  rfl
theorem decO_is (m : Int) (s : ByteArray) : decO m s = decN m s := by
  unfold decN
  by_cases h : m = 1
  · rw [if_pos h, h, decO_one]
  · rw [if_neg h, ← dec_is m s h, strB_tl]
theorem chars_enc (m : Int) (s : ByteArray) (hm : m ≠ 1) : chars (tl (encN m s)) = encC (tkm m) (chars (tl s)) := by
  unfold encN
  rw [if_neg hm, tl_strB]
  exact Pt.chars_flat _ (pr_enc (tkm_ok m) (Pt.pr_chars _))
/-! how long -/
theorem flat_len_le : ∀ L : List Ch, (flat L).length ≤ 4 * L.length
  | [] => Nat.zero_le _
  | c :: l => by
    have ih := flat_len_le l
    rw [Pt.flat_cons, List.length_append, List.length_cons]
    have : c.by.length ≤ 4 := by
      cases c with
      | b x => exact (by decide : (1 : Nat) ≤ 4)
      | g r => exact Sy.rune_le _
    omega
theorem chars_len_le (l : List UInt8) : (chars l).length ≤ l.length := by
  have h := Pt.flat_chars' l
  have key : ∀ L : List Ch, L.length ≤ (flat L).length := by
    intro L
    induction L with
    | nil => exact Nat.zero_le _
    | cons c L ih =>
      rw [Pt.flat_cons, List.length_append, List.length_cons]
      have : 0 < c.by.length := List.length_pos_iff.2 (Sy.by_ne c)
      omega
  have := key (chars l)
  rw [h] at this
  exact this
theorem betw_len3 {k : Tk} (c : Ch) : (betw k c).length ≤ 3 := by
  cases c with
  | b x => rw [Pt.betw_b]; split <;> simp
  | g r =>
    rw [Pt.betw_g]
    split
    · simp
    · cases hs : signed k.t (.g r) with
      | none => simp
      | some t => rcases Pt.signed_cases hs with ⟨r', e, h1, rfl⟩ | ⟨r', a, e, h1, h2, h3, rfl⟩ <;> simp
theorem mid_len {k : Tk} : ∀ L : List Ch, (L.flatMap (betw k)).length ≤ 3 * L.length
  | [] => Nat.zero_le _
  | c :: L => by
    have := betw_len3 (k := k) c
    have := mid_len (k := k) L
    rw [List.flatMap_cons, List.length_append, List.length_cons]
    omega
theorem enc_len (k : Tk) (L : List Ch) : (encC k L).length ≤ 3 * L.length + 4 := by
  have hl : (leftC k L).1.length ≤ 2 ∧ (leftC k L).2.length ≤ L.length := by
    rcases Pt.left_cases k L with ⟨c, t, R, rfl, h1, h2⟩ | ⟨h1, _⟩
    · rw [h2]
      rcases Pt.signed_cases h1 with ⟨r', e, _, rfl⟩ | ⟨r', a, e, _, _, _, rfl⟩ <;> simp
    · rw [h1]; simp
  have hr : (rightC k (leftC k L).2).2.length ≤ 2 ∧ (rightC k (leftC k L).2).1.length ≤ (leftC k L).2.length := by
    generalize (leftC k L).2 = M
    rcases Pt.right_cases k M with ⟨N, c, t, rfl, h1, h2⟩ | ⟨h1, _⟩
    · rw [h2]
      rcases Pt.signed_cases h1 with ⟨r', e, _, rfl⟩ | ⟨r', a, e, _, _, _, rfl⟩ <;> simp
    · rw [h1]; simp
  have hm := mid_len (k := k) (rightC k (leftC k L).2).1
  unfold encC
  have hd : ∀ t, dotC k L = some t → t.length ≤ 4 := by
    intro t ht
    unfold dotC at ht
    split at ht
    · split at ht
      · cases ht; simp
      · split at ht
        · cases ht; simp
        · split at ht
          · cases ht; simp
          · split at ht
            · cases ht; simp
            · cases ht
    · cases ht
  cases hdd : dotC k L with
  | some t => have := hd t hdd; dsimp only; omega
  | none =>
    dsimp only
    simp only [List.length_append]
    omega
theorem encN_size (m : Int) (s : ByteArray) : (encN m s).size ≤ 12 * s.size + 16 := by
  unfold encN
  split
  · omega
  · rw [Sy.size_strB]
    have h1 := flat_len_le (encC (tkm m) (chars (tl s)))
    have h2 := enc_len (tkm m) (chars (tl s))
    have h3 := chars_len_le (tl s)
    rw [tl_size] at h3
    omega
/-! spec.NameOpen -/
theorem hasB_ne (m b : Int) : (Go.bits .and .u64 m b = 0) = (hasB m b = false) := by
  unfold hasB
  apply propext
  rw [bne_eq_false_iff_eq]
theorem rd_un (L : List Ch) (c : Ch) (R : List Ch) (i : Int) (h : i = (L.length : Int)) : rd_T52 ((L ++ c :: R).map un) i = un c := by
  subst h
  unfold rd_T52
  rw [Int.toNat_natCast, List.map_append, List.map_cons]
  have : L.length = (L.map un).length := by rw [List.length_map]
  rw [this]
  simp
/-- A quote stands right ahead of a last character that the right takes. -/
def quoteB (m : Int) (L : List Ch) : Bool := match L.reverse with
  | .g r :: c :: _ => decide (c = qt) && (tkm m).r r
  | _ => false
end Go.Proofs.YtonmnpmklkbioaaDoor.Given
/- The walk of laws.FnNameBack. -/
namespace Go.Proofs.YtonmnpmklkbioaaDoor.Given
open Go.RowKit Go.Proofs.YtonmnpmklkbioaaDoorW.PrintWords Go.Proofs.YtonmnpmklkbioaaDoorW.PrintLast Go.Proofs.YtonmnpmklkbioaaDoorW.PrintMore Go.Proofs.YtonmnpmklkbioaaDoor.PN
open Go.Proofs.YtonmnpmklkbioaaDoor.Sy (tl strB tl_size strB_tl tl_strB tkm tkm_ok hasB ErrOk)
set_option linter.unusedVariables false
set_option linter.unusedSimpArgs false
/-- What the laws ask of a world. -/
structure Wo (w : World) : Prop where
  tabs : Tabs w
  err : ErrOk w
theorem Wo.below {w w' : World} (h : Wo w) (hb : Below w.heap.size w w') : Wo w' := ⟨h.tabs.below hb, h.err.below hb⟩
end Go.Proofs.YtonmnpmklkbioaaDoor.Given
/- The walk of laws.FnNameAgain. -/
namespace Go.Proofs.YtonmnpmklkbioaaDoor.Given
open Go.RowKit Go.Proofs.YtonmnpmklkbioaaDoorW.PrintWords Go.Proofs.YtonmnpmklkbioaaDoorW.PrintLast Go.Proofs.YtonmnpmklkbioaaDoorW.PrintMore Go.Proofs.YtonmnpmklkbioaaDoor.PN
open Go.Proofs.YtonmnpmklkbioaaDoor.Pt (Ch Tk flat chars signed betw leftC rightC encC dotC Pr)
open Go.Proofs.YtonmnpmklkbioaaDoor.Sy (tl strB tl_size strB_tl tl_strB tkm tkm_ok hasB ErrOk)
set_option linter.unusedVariables false
set_option linter.unusedSimpArgs false
/-- A character that no bit takes and that is no sign stays. -/
theorem enc_plain {k : Tk} {c : Ch} (hl : signed k.l c = none) (hr : signed k.r c = none) (hb : betw k c = [c]) (hd : c ≠ .g 46) (hd2 : c ≠ .g 65294) : encC k [c] = [c] := by
  have h1 : dotC k [c] = none := by
    unfold dotC
    split
    · rw [if_neg (by simpa using hd), if_neg (by simp), if_neg (by simpa using hd2), if_neg (by simp)]
    · rfl
  have h2 : leftC k [c] = ([], [c]) := by
    have e : leftC k [c] = match signed k.l c with
      | some t => (t, [])
      | none => ([], [c]) := rfl
    rw [e, hl]
  have h3 : rightC k [c] = ([c], []) := by
    unfold rightC
    rw [show [c].getLast? = some c from rfl]
    dsimp only
    rw [hr]
  unfold encC
  rw [h1, h2]
  dsimp only
  rw [h3]
  simp [hb]
theorem enc_letter (m : Int) (c : UInt8) (h0 : 97 ≤ c.toNat) (h1 : c.toNat ≤ 122) : encN m ⟨#[c]⟩ = ⟨#[c]⟩ := by
  unfold encN
  by_cases hm : m = 1
  · rw [if_pos hm]
  · rw [if_neg hm]
    have hc : chars (tl (⟨#[c]⟩ : ByteArray)) = [.g c.toNat] := (Sy.hd_low (x := c) (by omega) []).2
    have hs : ∀ P : Nat → Bool, P c.toNat = false → signed P (.g c.toNat) = none := by
      intro P hP
      rw [Pt.signed_g, hP, Pt.sof_none (by omega)]
      rfl
    have b : ∀ x : Nat, c.toNat ≠ x → Nat.beq c.toNat x = false := by
      intro x hx
      cases hb : Nat.beq c.toNat x with
      | false => rfl
      | true => exact absurd (by simpa using hb) hx
    have ht : (tkm m).t c.toNat = false := by
      show (Nat.beq c.toNat 0 || (Sy.bitsOf c.toNat).any (hasB m)) = false
      have : Sy.bitsOf c.toNat = [] := by
        unfold Sy.bitsOf
        repeat rw [if_neg (by omega)]
      rw [this, b 0 (by omega)]
      rfl
    have hl : (tkm m).l c.toNat = false := by
      show ((Nat.beq c.toNat 32 && _) || (Nat.beq c.toNat 46 && _) || (Nat.beq c.toNat 126 && _) || ((Nat.beq c.toNat 9 || Nat.beq c.toNat 10 || Nat.beq c.toNat 11 || Nat.beq c.toNat 13) && _)) = false
      rw [b 32 (by omega), b 46 (by omega), b 126 (by omega), b 9 (by omega), b 10 (by omega), b 11 (by omega), b 13 (by omega)]
      rfl
    have hr : (tkm m).r c.toNat = false := by
      show ((Nat.beq c.toNat 32 && _) || (Nat.beq c.toNat 46 && _) || ((Nat.beq c.toNat 9 || Nat.beq c.toNat 10 || Nat.beq c.toNat 11 || Nat.beq c.toNat 13) && _)) = false
      rw [b 32 (by omega), b 46 (by omega), b 9 (by omega), b 10 (by omega), b 11 (by omega), b 13 (by omega)]
      rfl
    have hb : betw (tkm m) (.g c.toNat) = [.g c.toNat] := by
      rw [Pt.betw_g, if_neg (by omega), hs _ ht]
      rfl
    rw [hc, enc_plain (hs _ hl) (hs _ hr) hb (by simp; omega) (by simp; omega), Sy.flat_one]
    show strB (Lib.encodeRune ((c.toNat : Nat) : Int)) = _
    rw [Sy.enc_lt (by omega)]
    rfl
end Go.Proofs.YtonmnpmklkbioaaDoor.Given
/- The walk of laws.FnNameStays. -/
namespace Go.Proofs.YtonmnpmklkbioaaDoor.Given
open Go.RowKit Go.Proofs.YtonmnpmklkbioaaDoorW.PrintWords Go.Proofs.YtonmnpmklkbioaaDoorW.PrintLast Go.Proofs.YtonmnpmklkbioaaDoorW.PrintMore Go.Proofs.YtonmnpmklkbioaaDoor.PN Go.Proofs.YtonmnpmklkbioaaDoor.PM
open Go.Proofs.YtonmnpmklkbioaaDoor.Pt (Ch Tk flat chars signed betw leftC rightC encC dotC Pr qt sof decC dleft dright dmid undotC lsign)
open Go.Proofs.YtonmnpmklkbioaaDoor.Sy (tl strB tl_size strB_tl tl_strB tkm tkm_ok hasB ErrOk)
set_option linter.unusedVariables false
set_option linter.unusedSimpArgs false
def takesC (m : Int) : Ch → Bool
  | .g r => (tkm m).t r
  | .b _ => false
def leftB (m : Int) : Ch → Bool
  | .g r => (tkm m).l r
  | .b _ => false
def rightB (m : Int) : Ch → Bool
  | .g r => (tkm m).r r
  | .b _ => false
def badB : Ch → Bool
  | .g _ => false
  | .b _ => true
theorem takes_un (m : Int) (k : Nat) (c : Ch) : spec_Takes.f (k + 3) m (un c).f1 = some (takesC m c) := by
  cases c with
  | g r => exact takes_is m k r
  | b x => exact takes_neg m (k + 3)
theorem takesLeft_un (m : Int) (c : Ch) : spec_TakesLeft.f m (un c).f1 = some (leftB m c) := by
  cases c with
  | g r => exact takesLeft_is m r
  | b x => rfl
theorem takesRight_un2 (m : Int) (c : Ch) : spec_TakesRight.f m (un c).f1 = some (rightB m c) := by
  cases c with
  | g r => exact takesRight_is m r
  | b x => rfl
theorem un_f2 (c : Ch) : (un c).f2 = badB c := by cases c <;> rfl
theorem w64s {n : Nat} (h : n ≤ 1000000000000) : wrap64 ((n : Int) + 1) = ((n + 1 : Nat) : Int) := by unfold wrap64; omega
def keepB (m : Int) (c : Ch) : Bool := !takesC m c && !(badB c && hasB m 16777216)
def endsB (m : Int) (L : List Ch) : Bool := match L.head?, L.getLast? with
  | some a, some b => !leftB m a && !rightB m b
  | _, _ => true
theorem rd_last (M : List Ch) (d : Ch) : rd_T52 ((M ++ [d]).map un) (M.length : Int) = un d := rd_un M d [] _ rfl
theorem kept_l0 (m : Int) {L : List Ch} (hL : L ≠ []) (hn : L.length ≤ 1000000000000) : ∀ (R A : List Ch), L = A ++ R →
    laws_encKept.l0 (R.length + 4) m (L.map un) (L.map un) (L.length : Int) (A.length : Int) = some (R.all (keepB m) && endsB m L) := by
  intro R
  induction R with
  | nil =>
    intro A hA
    rw [List.append_nil] at hA
    rw [show ([] : List Ch).length + 4 = 3 + 1 from rfl]
    unfold laws_encKept.l0
    dsimp only
    obtain ⟨a, T, hT⟩ : ∃ a T, L = a :: T := by
      cases L with
      | nil => exact absurd rfl hL
      | cons a T => exact ⟨a, T, rfl⟩
    obtain ⟨M, d, hM⟩ : ∃ M d, L = M ++ [d] := ⟨L.dropLast, L.getLast hL, (List.dropLast_concat_getLast hL).symm⟩
    have r0 : rd_T52 (L.map un) 0 = un a := by rw [hT]; exact rd_un [] a T 0 rfl
    have hml : L.length = M.length + 1 := by rw [hM]; simp
    have wl : wrap64 ((L.length : Int) - 1) = (M.length : Int) := by rw [hml]; unfold wrap64; omega
    have r1 : rd_T52 (L.map un) (M.length : Int) = un d := by rw [hM]; exact rd_last M d
    have hE : endsB m L = (!leftB m a && !rightB m d) := by
      unfold endsB
      have e1 : L.head? = some a := by rw [hT]; rfl
      have e2 : L.getLast? = some d := by rw [hM]; exact List.getLast?_concat
      rw [e1, e2]
    rw [if_neg (by rw [← hA]; omega), List.length_map, if_pos (by omega), wl, r0, r1, takesLeft_un, takesRight_un2, hE]
    simp only [Option.bind_some, List.all_nil, Bool.true_and]
    cases leftB m a with
    | true => rfl
    | false =>
      rw [if_neg (by decide), if_pos (by omega), if_pos (by omega)]
      rfl
  | cons c R ih =>
    intro A hA
    have ih' := ih (A ++ [c]) (by rw [hA]; simp)
    have hlen : L.length = A.length + (R.length + 1) := by rw [hA]; simp
    have hi : rd_T52 (L.map un) (A.length : Int) = un c := by rw [hA]; exact rd_un A c R _ rfl
    have e1 : ((A ++ [c]).length : Int) = ((A.length + 1 : Nat) : Int) := by simp
    rw [e1, ← w64s (by omega)] at ih'
    rw [show (c :: R).length + 4 = (R.length + 4) + 1 by rw [List.length_cons]]
    unfold laws_encKept.l0
    try dsimp only
    rw [if_pos (by omega), if_pos (by omega), List.length_map, if_pos (by omega), hi, show R.length + 4 = (R.length + 1) + 3 by omega, takes_un, un_f2]
    rw [show R.length + 4 = (R.length + 1) + 3 by omega] at ih'
    dsimp only [Option.bind_some]
    rw [List.all_cons, show keepB m c = (!takesC m c && !(badB c && hasB m 16777216)) from rfl]
    have hbz : (Go.bits .and .u64 m 16777216 = 0) = (hasB m 16777216 = false) := hasB_ne m 16777216
    cases takesC m c with
    | true => rfl
    | false =>
      rw [if_neg (by decide)]
      cases badB c with
      | false =>
        rw [if_neg (by decide), ih']
        rfl
      | true =>
        rw [if_pos rfl]
        cases hb : hasB m 16777216 with
        | false =>
          rw [if_pos (hbz ▸ hb), ih']
          rfl
        | true =>
          rw [if_neg (by rw [hbz, hb]; decide)]
          rfl
def dotB (m : Int) (s : ByteArray) : Bool := hasB m 33554432 && (s.toList == [46] || s.toList == [46, 46])
def keptB (m : Int) (s : ByteArray) : Bool := s.toList == [] || (!dotB m s && ((chars (tl s)).all (keepB m) && endsB m (chars (tl s))))
theorem units_f {s : ByteArray} (hs : s.size ≤ 1000000000000) : spec_Units.f s = some ((chars (tl s)).map un) := by unfold spec_Units.f; rw [if_pos hs]
theorem chars_ne {s : ByteArray} (h : s.toList ≠ []) : chars (tl s) ≠ [] := by
  intro e
  apply h
  rw [Sy.tl_eq]
  have := Pt.flat_chars' (tl s)
  rw [e] at this
  exact this.symm
theorem kept_j0 (m : Int) (s : ByteArray) (hs : s.size ≤ 1000000000000) (hne : s.toList ≠ []) (b : Bool) : laws_encKept.j0 ((chars (tl s)).length + 5) m s b = some (!b && ((chars (tl s)).all (keepB m) && endsB m (chars (tl s)))) := by
  have hlen := chars_len_le (tl s)
  rw [tl_size] at hlen
  rw [show (chars (tl s)).length + 5 = ((chars (tl s)).length + 4) + 1 by omega]
  unfold laws_encKept.j0
  dsimp only
  rw [units_f hs]
  cases b with
  | true => rfl
  | false =>
    rw [if_neg (by decide)]
    dsimp only [Option.bind_some]
    rw [List.length_map]
    exact kept_l0 m (chars_ne hne) (by omega) (chars (tl s)) [] rfl
theorem kept_f (m : Int) (s : ByteArray) (hs : s.size ≤ 1000000000000) : laws_encKept.f ((chars (tl s)).length + 5) m s = some (keptB m s) := by
  unfold laws_encKept.f keptB dotB
  by_cases h0 : s.toList = []
  · rw [if_pos h0, h0]; rfl
  · have e0 : (s.toList == []) = false := by simpa using h0
    have hbz : (Go.bits .and .u64 m 33554432 = 0) = (hasB m 33554432 = false) := hasB_ne m 33554432
    rw [if_neg h0, kept_j0 m s hs h0 false, kept_j0 m s hs h0 true, kept_j0 m s hs h0 _, e0]
    cases hb : hasB m 33554432 with
    | false => rw [if_pos (hbz ▸ hb)]; rfl
    | true =>
      rw [if_neg (by rw [hbz, hb]; decide)]
      by_cases h1 : s.toList = [46]
      · rw [if_pos h1, h1]; rfl
      · rw [if_neg h1]
        have e1 : (s.toList == [46]) = false := by simpa using h1
        rw [e1]
        rfl
/-! encNothing -/
/-! what has nothing to do with a mask stays -/
end Go.Proofs.YtonmnpmklkbioaaDoor.Given
/- The condition that the two tables of unicode/utf8 read as the program's text lays them gives what Encode's walk asks. -/
namespace Go.Proofs.YtonmnpmklkbioaaDoor.Given
open Go.RowKit
set_option linter.unusedVariables false
theorem xU : Go.Proofs.U8Extra Tryd.prog Laid.L_n197_ren := ⟨by kernel_rfl, by kernel_rfl, by kernel_rfl, by kernel_rfl, by kernel_rfl, by kernel_rfl, by kernel_rfl⟩
theorem accept_is : (Rows.laid_unicode_utf8_acceptRanges : DataW Unit) = Lib.acceptData := by kernel_rfl
theorem first_is : Rows.laid_unicode_utf8_first = Lib.firstData := Pinned.utf8First_eq
theorem tabs_of {W : World} {l : List (String × DataW Unit)} (h : laidMet Tryd.prog l W) (h1 : ("unicode/utf8.first", Rows.laid_unicode_utf8_first) ∈ l) (h2 : ("unicode/utf8.acceptRanges", (Rows.laid_unicode_utf8_acceptRanges : DataW Unit)) ∈ l) : Tabs W :=
  Go.Proofs.utf8Tabs_of_reads { Laid.L_n197 with } xU (by rw [← first_is]; exact Lib.laidMet.reads h h1) (by rw [← accept_is]; exact Lib.laidMet.reads h h2)
end Go.Proofs.YtonmnpmklkbioaaDoor.Given
/- The condition of the rows gives what the laws' walks ask: the two tables, and an error in strconv.ErrSyntax. -/
namespace Go.Proofs.YtonmnpmklkbioaaDoor.Given
open Go.RowKit
set_option linter.unusedVariables false
theorem err_of {W : World} {l : List (String × DataW Unit)} (h : laidMet Tryd.prog l W) (h1 : ("strconv.ErrSyntax", (Rows.laid_strconv_ErrSyntax : DataW Unit)) ∈ l) : Sy.ErrOk W := by
  obtain ⟨g0, t0, cs0, f0, p0, hg0, ht0, hv0, hd0⟩ := Lib.laidMet.reads h h1
  obtain rfl : g0 = 3 := (Option.some.inj (hg0.symm.trans (by kernel_rfl)))
  obtain rfl : t0 = 74 := (Option.some.inj (ht0.symm.trans (by kernel_rfl)))
  obtain ⟨l0⟩ := cs0
  obtain ⟨f1, u, v, hl, hn, _⟩ := iface_of_trod Tryd.underlying74 hd0
  refine ⟨.iface u v, ?_, .inr ⟨u, v, rfl⟩⟩
  have hl' : l0 = [.iface u v] := hl
  subst hl'
  simpa using World.var?_cell hg0 hv0 0
theorem wo_of {W : World} {l : List (String × DataW Unit)} (h : laidMet Tryd.prog l W) (h1 : ("unicode/utf8.first", Rows.laid_unicode_utf8_first) ∈ l) (h2 : ("unicode/utf8.acceptRanges", (Rows.laid_unicode_utf8_acceptRanges : DataW Unit)) ∈ l) (h3 : ("strconv.ErrSyntax", (Rows.laid_strconv_ErrSyntax : DataW Unit)) ∈ l) : Wo W :=
  ⟨tabs_of h h1 h2, err_of h h3⟩
end Go.Proofs.YtonmnpmklkbioaaDoor.Given
