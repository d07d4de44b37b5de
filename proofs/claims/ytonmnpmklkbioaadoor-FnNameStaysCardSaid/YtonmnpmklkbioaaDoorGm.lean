/- 7 texts of this claim, one behind the other. -/
import Derived.Test.YtonmnpmklkbioaaDoorGg
import Derived.Test.YtonmnpmklkbioaaDoorGk
import Derived.Test.YtonmnpmklkbioaaDoorGl
import Derived.Test.YtonmnpmklkbioaaDoorRows
import Derived.PinnedBridge
import Derived.Lib.LaidU8
import Derived.LaidLaws
import Derived.Stop.ErrReads
import Derived.ChangeVars
import Derived.JoinedOf
/- The walk of laws.FnNameEncode. -/
namespace Go.Proofs.YtonmnpmklkbioaaDoor.Given
open Go.RowKit Go.Proofs.YtonmnpmklkbioaaDoorW.PrintWords Go.Proofs.YtonmnpmklkbioaaDoorW.PrintLast Go.Proofs.YtonmnpmklkbioaaDoorW.PrintMore Go.Proofs.YtonmnpmklkbioaaDoor.PN
open Go.Proofs.YtonmnpmklkbioaaDoor.Pt (Ch Tk flat chars chs isBad sgn sof signed betw leftC rightC encC dotC hexc isC run Pr hd qt)
open Go.Proofs.YtonmnpmklkbioaaDoor.Sy (tl strB tl_size strB_tl tl_strB tkm tkm_ok hasB encO enc_is)
set_option linter.unusedVariables false
set_option linter.unusedSimpArgs false
/-- The library's two tables are there. -/
def Tabs (w : World) : Prop := Lib.Utf8Tabs (Laid.L_n197_ren.g 3) (Laid.L_n197_ren.g 4) w
theorem Tabs.below {w w' : World} (h : Tabs w) (hb : Below w.heap.size w w') : Tabs w' :=
  ⟨fun c hc => (hb.cell (World.block_lt_of_cell? w _ (h.1 c hc))).trans (h.1 c hc), fun i hi => ⟨(hb.cell (World.block_lt_of_cell? w _ (h.2 i hi).1)).trans (h.2 i hi).1, (hb.cell (World.block_lt_of_cell? w _ (h.2 i hi).2)).trans (h.2 i hi).2⟩⟩
theorem encO_one (s : ByteArray) : encO 1 s = s := by
  unfold encO Sy.frontO
  rfl
theorem encO_is (m : Int) (s : ByteArray) : encO m s = encN m s := by
  unfold encN
  by_cases h : m = 1
  · rw [if_pos h, h, encO_one]
  · rw [if_neg h, ← enc_is m s h, strB_tl]
set_option maxHeartbeats 1000000 in
/-- impl.NameEncode. -/
theorem enc15 (m : Int) (s : ByteArray) (w : World) (hs : s.size ≤ 17592186044) (hT : Tabs w) :
    Calls Tryd.prog 15 #[.int .u64 m, .string s] w fun e w' => e = .returned (.string (encN m s)) ∧ Below w.heap.size w w' := by
  have c := Sy.calls35 m s w hs hT
  rw [encO_is] at c
  obtain ⟨t, ht⟩ : ∃ t, encN m s = t := ⟨_, rfl⟩
  rw [ht] at c ⊢
  clear ht
  go_enter Tryd.func15, Tryd.ntmps15
  go_wp2_with (go_at_call 35; refine c.mono ?_; rintro e w1 ⟨rfl, hb⟩)
  go_ret
  exact ⟨rfl, hb⟩
theorem short_one (s : ByteArray) (hs : s.size ≤ 2147483647) : laws_encShort.f 3 [s] = some (decide ((s.size : Int) ≤ 65536)) := by
  have h1 : wrap64 (0 + (s.size : Int)) = (s.size : Int) := by unfold wrap64; omega
  have h2 : wrap64 ((0 : Int) + 1) = 1 := by unfold wrap64; rfl
  have h3 : rdOf ByteArray.empty [s] 0 = s := rfl
  unfold laws_encShort.f
  simp only [laws_encShort.l0, List.length_cons, List.length_nil, h3, h1, h2]
  rw [if_pos (by decide), if_pos (by decide), if_pos (by decide), if_neg (by decide)]
end Go.Proofs.YtonmnpmklkbioaaDoor.Given
/- What is written of a name is a name's characters; what is read back; impl.NameDecode; spec.NameOpen. -/
namespace Go.Proofs.YtonmnpmklkbioaaDoor.Given
open Go.RowKit Go.Proofs.YtonmnpmklkbioaaDoorW.PrintWords Go.Proofs.YtonmnpmklkbioaaDoorW.PrintLast Go.Proofs.YtonmnpmklkbioaaDoorW.PrintMore Go.Proofs.YtonmnpmklkbioaaDoor.PN
open Go.Proofs.YtonmnpmklkbioaaDoor.Pt (Ch Tk flat chars chs isBad sgn sof signed betw leftC rightC encC dotC hexc isC run Pr hd qt decC Open quoteOpen)
open Go.Proofs.YtonmnpmklkbioaaDoor.Sy (tl strB tl_size strB_tl tl_strB tkm tkm_ok hasB encO enc_is decO dec_is ErrOk)
set_option linter.unusedVariables false
set_option linter.unusedSimpArgs false
theorem goods_signed {k : Tk} {P : Nat → Bool} (hP : ∀ c, P c = true → c < 128) {c : Ch} {t : List Ch} (h : signed P c = some t) (hc : ∀ r, c = .g r → Pt.Good r) : t ≠ [] ∧ ∀ d ∈ t, ∃ q, d = .g q ∧ Pt.Good q := by
  rcases Pt.signed_cases h with ⟨r, rfl, h1, rfl⟩ | ⟨r, a, rfl, h1, h2, h3, rfl⟩
  · refine ⟨by simp, fun d hd => ?_⟩
    simp only [List.mem_cons, List.not_mem_nil, or_false] at hd
    subst hd
    exact ⟨_, rfl, Pt.good_sgn (hP r h1)⟩
  · refine ⟨by simp, fun d hd => ?_⟩
    simp only [List.mem_cons, List.not_mem_nil, or_false] at hd
    rcases hd with rfl | rfl
    · exact ⟨_, rfl, Pt.good_qt⟩
    · exact ⟨_, rfl, hc _ rfl⟩
theorem pr_good {L : List Ch} : Pr L → ∀ c ∈ L, ∀ r, c = .g r → Pt.Good r := by
  induction L with
  | nil => intro _ c hc; cases hc
  | cons d L ih =>
    intro hp c hc r hr
    rcases List.mem_cons.1 hc with rfl | hc
    · subst hr; exact hp.1
    · exact ih (Pt.pr_right (L := [d]) hp) c hc r hr
theorem ok_betw {k : Tk} (hk : k.Ok) : Pt.Ok (betw k) := by
  refine ⟨fun r hr => ⟨Pt.betw_ne k _, ?_⟩, fun x => ?_⟩
  · rw [Pt.betw_g]
    split
    · intro c hc
      simp only [List.mem_cons, List.not_mem_nil, or_false, or_self] at hc
      subst hc
      exact ⟨_, rfl, Pt.good_qt⟩
    · cases hs : signed k.t (.g r) with
      | none =>
        intro c hc
        simp only [Option.getD_none, List.mem_cons, List.not_mem_nil, or_false] at hc
        subst hc
        exact ⟨r, rfl, hr⟩
      | some t => exact (goods_signed (k := k) hk.t hs (fun r' e => by cases e; exact hr)).2
  · rw [Pt.betw_b]
    split
    · refine .inr ⟨by simp, fun c hc => ?_⟩
      have hx := x.toNat_lt
      simp only [List.mem_cons, List.not_mem_nil, or_false] at hc
      rcases hc with rfl | rfl | rfl
      · exact ⟨_, rfl, Pt.good_qt⟩
      · exact ⟨_, rfl, .inl (by have := Pt.hexc_low (x.toNat / 16) (by omega); omega)⟩
      · exact ⟨_, rfl, .inl (by have := Pt.hexc_low (x.toNat % 16) (by omega); omega)⟩
    · exact .inl rfl
theorem run_good_list {L : List Ch} (h : ∀ c ∈ L, ∃ q, c = .g q ∧ Pt.Good q) : run (flat L) = [] := by
  by_cases hL : L = []
  · subst hL; rfl
  · have := Pt.run_goods (M := []) hL h
    rw [List.append_nil] at this
    exact this
theorem pr_list {L : List Ch} (h : ∀ c ∈ L, ∃ q, c = .g q ∧ Pt.Good q) : Pr L := by
  have := Pt.pr_goods (M := []) h trivial
  rw [List.append_nil] at this
  exact this
theorem pr_enc {k : Tk} (hk : k.Ok) {L : List Ch} (hp : Pr L) : Pr (encC k L) := by
  unfold encC
  have hdot : ∀ t, dotC k L = some t → Pr t := by
    intro t ht
    unfold dotC at ht
    have g1 : Pt.Good 65294 := .inr ⟨by omega, by omega⟩
    split at ht
    · split at ht
      · cases ht; exact ⟨g1, trivial⟩
      · split at ht
        · cases ht; exact ⟨g1, g1, trivial⟩
        · split at ht
          · cases ht; exact ⟨Pt.good_qt, g1, trivial⟩
          · split at ht
            · cases ht; exact ⟨Pt.good_qt, g1, Pt.good_qt, g1, trivial⟩
            · cases ht
    · cases ht
  cases hd : dotC k L with
  | some t => exact hdot t hd
  | none =>
    dsimp only
    have hl : (∀ c ∈ (leftC k L).1, ∃ q, c = .g q ∧ Pt.Good q) ∧ Pr (leftC k L).2 := by
      rcases Pt.left_cases k L with ⟨c, t, R, rfl, h1, h2⟩ | ⟨h1, _⟩
      · rw [h2]
        exact ⟨(goods_signed (k := k) hk.l h1 (fun r e => pr_good hp c List.mem_cons_self r e)).2, Pt.pr_right (L := [c]) hp⟩
      · rw [h1]
        exact ⟨fun c hc => (by cases hc), hp⟩
    have hr : (∀ c ∈ (rightC k (leftC k L).2).2, ∃ q, c = .g q ∧ Pt.Good q) ∧ Pr (rightC k (leftC k L).2).1 := by
      have hp2 := hl.2
      generalize (leftC k L).2 = M at hp2 ⊢
      rcases Pt.right_cases k M with ⟨N, c, t, rfl, h1, h2⟩ | ⟨h1, _⟩
      · rw [h2]
        exact ⟨(goods_signed (k := k) hk.r h1 (fun r e => pr_good hp2 c (List.mem_append_right _ List.mem_cons_self) r e)).2, Pt.pr_left hp2⟩
      · rw [h1]
        exact ⟨fun c hc => (by cases hc), hp2⟩
    rw [List.append_assoc]
    exact Pt.pr_goods hl.1 (Pt.pr_append (Pt.pr_subst (ok_betw hk) _ hr.2) (pr_list hr.1) (run_good_list hr.1))
/-- What NameDecode gives. -/
def decN (m : Int) (s : ByteArray) : ByteArray := if m = 1 then s else strB (flat (decC (tkm m) (chars (tl s))))
theorem decO_one (s : ByteArray) : decO 1 s = s := by
  unfold decO Sy.dfrontO
  rfl
theorem decO_is (m : Int) (s : ByteArray) : decO m s = decN m s := by
  unfold decN
  by_cases h : m = 1
  · rw [if_pos h, h, decO_one]
  · rw [if_neg h, ← dec_is m s h, strB_tl]
set_option maxHeartbeats 1000000 in
/-- impl.NameDecode. -/
theorem dec20 (m : Int) (s : ByteArray) (w : World) (hs : s.size ≤ 17592186044) (hT : Tabs w) (hE : ErrOk w) :
    Calls Tryd.prog 20 #[.int .u64 m, .string s] w fun e w' => e = .returned (.string (decN m s)) ∧ Below w.heap.size w w' := by
  have c := Sy.calls44 m s w hs hT hE
  rw [decO_is] at c
  obtain ⟨t, ht⟩ : ∃ t, decN m s = t := ⟨_, rfl⟩
  rw [ht] at c ⊢
  clear ht
  go_enter Tryd.func20, Tryd.ntmps20
  go_wp2_with (go_at_call 44; refine c.mono ?_; rintro e w1 ⟨rfl, hb⟩)
  go_ret
  exact ⟨rfl, hb⟩
theorem chars_enc (m : Int) (s : ByteArray) (hm : m ≠ 1) : chars (tl (encN m s)) = encC (tkm m) (chars (tl s)) := by
  unfold encN
  rw [if_neg hm, tl_strB]
  exact Pt.chars_flat _ (pr_enc (tkm_ok m) (Pt.pr_chars _))
/-- Whether it is left open. -/
def openN (m : Int) (s : ByteArray) : Prop := Pt.Open (tkm m) (chars (tl s))
theorem back_is {m : Int} {s : ByteArray} (h : ¬ openN m s) : decN m (encN m s) = s := by
  unfold decN
  by_cases hm : m = 1
  · rw [if_pos hm]
    unfold encN
    rw [if_pos hm]
  · rw [if_neg hm, chars_enc m s hm, Pt.back (tkm_ok m) (Sy.tkm_dot m) h, Pt.flat_chars', strB_tl]
/-! how long -/
theorem flat_len_le : ∀ L : List Ch, (flat L).length ≤ 4 * L.length
  | [] => Nat.zero_le _
  | c :: l => by
    have ih := flat_len_le l
    rw [Pt.flat_cons, List.length_append, List.length_cons]
    have : c.by.length ≤ 4 := by
      cases c with
      | b x => exact (by decide : (1 : Nat) ≤ 4)
      | g r => exact Sy.rune_le _
    omega
theorem chars_len_le (l : List UInt8) : (chars l).length ≤ l.length := by
  have h := Pt.flat_chars' l
  have key : ∀ L : List Ch, L.length ≤ (flat L).length := by
    intro L
    induction L with
    | nil => exact Nat.zero_le _
    | cons c L ih =>
      rw [Pt.flat_cons, List.length_append, List.length_cons]
      have : 0 < c.by.length := List.length_pos_iff.2 (Sy.by_ne c)
      omega
  have := key (chars l)
  rw [h] at this
  exact this
theorem betw_len3 {k : Tk} (c : Ch) : (betw k c).length ≤ 3 := by
  cases c with
  | b x => rw [Pt.betw_b]; split <;> simp
  | g r =>
    rw [Pt.betw_g]
    split
    · simp
    · cases hs : signed k.t (.g r) with
      | none => simp
      | some t => rcases Pt.signed_cases hs with ⟨r', e, h1, rfl⟩ | ⟨r', a, e, h1, h2, h3, rfl⟩ <;> simp
theorem mid_len {k : Tk} : ∀ L : List Ch, (L.flatMap (betw k)).length ≤ 3 * L.length
  | [] => Nat.zero_le _
  | c :: L => by
    have := betw_len3 (k := k) c
    have := mid_len (k := k) L
    rw [List.flatMap_cons, List.length_append, List.length_cons]
    omega
theorem enc_len (k : Tk) (L : List Ch) : (encC k L).length ≤ 3 * L.length + 4 := by
  have hl : (leftC k L).1.length ≤ 2 ∧ (leftC k L).2.length ≤ L.length := by
    rcases Pt.left_cases k L with ⟨c, t, R, rfl, h1, h2⟩ | ⟨h1, _⟩
    · rw [h2]
      rcases Pt.signed_cases h1 with ⟨r', e, _, rfl⟩ | ⟨r', a, e, _, _, _, rfl⟩ <;> simp
    · rw [h1]; simp
  have hr : (rightC k (leftC k L).2).2.length ≤ 2 ∧ (rightC k (leftC k L).2).1.length ≤ (leftC k L).2.length := by
    generalize (leftC k L).2 = M
    rcases Pt.right_cases k M with ⟨N, c, t, rfl, h1, h2⟩ | ⟨h1, _⟩
    · rw [h2]
      rcases Pt.signed_cases h1 with ⟨r', e, _, rfl⟩ | ⟨r', a, e, _, _, _, rfl⟩ <;> simp
    · rw [h1]; simp
  have hm := mid_len (k := k) (rightC k (leftC k L).2).1
  unfold encC
  have hd : ∀ t, dotC k L = some t → t.length ≤ 4 := by
    intro t ht
    unfold dotC at ht
    split at ht
    · split at ht
      · cases ht; simp
      · split at ht
        · cases ht; simp
        · split at ht
          · cases ht; simp
          · split at ht
            · cases ht; simp
            · cases ht
    · cases ht
  cases hdd : dotC k L with
  | some t => have := hd t hdd; dsimp only; omega
  | none =>
    dsimp only
    simp only [List.length_append]
    omega
theorem encN_size (m : Int) (s : ByteArray) : (encN m s).size ≤ 12 * s.size + 16 := by
  unfold encN
  split
  · omega
  · rw [Sy.size_strB]
    have h1 := flat_len_le (encC (tkm m) (chars (tl s)))
    have h2 := enc_len (tkm m) (chars (tl s))
    have h3 := chars_len_le (tl s)
    rw [tl_size] at h3
    omega
/-! spec.NameOpen -/
theorem hasB_ne (m b : Int) : (Go.bits .and .u64 m b = 0) = (hasB m b = false) := by
  unfold hasB
  apply propext
  rw [bne_eq_false_iff_eq]
theorem takesRight_un (m : Int) (c : Ch) : spec_TakesRight.f m (un c).f1 = some (match c with
    | .g r => (tkm m).r r
    | .b _ => false) := by
  cases c with
  | g r => exact takesRight_is m r
  | b x => rfl
theorem rd_un (L : List Ch) (c : Ch) (R : List Ch) (i : Int) (h : i = (L.length : Int)) : rd_T52 ((L ++ c :: R).map un) i = un c := by
  subst h
  unfold rd_T52
  rw [Int.toNat_natCast, List.map_append, List.map_cons]
  have : L.length = (L.map un).length := by rw [List.length_map]
  rw [this]
  simp
/-- A quote stands right ahead of a last character that the right takes. -/
def quoteB (m : Int) (L : List Ch) : Bool := match L.reverse with
  | .g r :: c :: _ => decide (c = qt) && (tkm m).r r
  | _ => false
theorem quoteB_is {m : Int} {L : List Ch} : quoteB m L = true ↔ quoteOpen (tkm m) L := by
  unfold quoteB quoteOpen
  obtain ⟨R, hR⟩ : ∃ R, L.reverse = R := ⟨_, rfl⟩
  have hL : L = R.reverse := by rw [← hR, List.reverse_reverse]
  rw [hR]
  constructor
  · intro h
    split at h
    · rename_i r c T
      rw [Bool.and_eq_true, decide_eq_true_eq] at h
      refine ⟨T.reverse, r, ?_, h.2⟩
      rw [hL, h.1]
      simp
    · cases h
  · rintro ⟨M, r, e, h⟩
    rw [e] at hL
    have : R = .g r :: qt :: M.reverse := by
      rw [← List.reverse_reverse R, ← hL]
      simp
    rw [this]
    dsimp only
    rw [h]
    simp
theorem j0_is (m : Int) (s : ByteArray) (hs : s.size ≤ 1000000000000) (k : Nat) (b : Bool) : Go.Proofs.YtonmnpmklkbioaaDoor.PM.spec_NameOpen.j0 (k + 1) m s b = some (b || quoteB m (chars (tl s))) := by
  have hun : spec_Units.f s = some ((chars (tl s)).map un) := by unfold spec_Units.f; rw [if_pos hs]
  unfold Go.Proofs.YtonmnpmklkbioaaDoor.PM.spec_NameOpen.j0
  dsimp only
  rw [hun]
  cases b with
  | true => rfl
  | false =>
    rw [if_neg (by decide)]
    dsimp only [Option.bind_some]
    have hlen := chars_len_le (tl s)
    rw [tl_size] at hlen
    obtain ⟨L, hL⟩ : ∃ L, chars (tl s) = L := ⟨_, rfl⟩
    rw [hL] at hlen ⊢
    rw [List.length_map]
    have hq : ∀ R, L.reverse = R → quoteB m L = match R with
        | .g r :: c :: _ => decide (c = qt) && (tkm m).r r
        | _ => false := by intro R h; unfold quoteB; rw [h]
    cases hr : L.reverse with
    | nil =>
      have : L = [] := by rw [← List.reverse_reverse L, hr]; rfl
      rw [hq _ hr, this]
      rfl
    | cons d T =>
      cases T with
      | nil =>
        have : L = [d] := by rw [← List.reverse_reverse L, hr]; rfl
        rw [hq _ hr, this]
        cases d <;> rfl
      | cons c T =>
        have hL2 : L = T.reverse ++ c :: [d] := by rw [← List.reverse_reverse L, hr]; simp
        have hL3 : L = (T.reverse ++ [c]) ++ d :: [] := by rw [hL2]; simp
        have hn : L.length = T.length + 2 := by rw [hL2]; simp
        have w1 : wrap64 ((L.length : Int) - 2) = (T.reverse.length : Int) := by rw [hn, List.length_reverse]; unfold wrap64; omega
        have w2 : wrap64 ((L.length : Int) - 1) = ((T.reverse ++ [c]).length : Int) := by rw [hn, List.length_append, List.length_reverse]; simp only [List.length_cons, List.length_nil]; unfold wrap64; omega
        have r1 : rd_T52 (L.map un) (wrap64 ((L.length : Int) - 2)) = un c := by rw [w1, hL2]; exact rd_un _ _ _ _ rfl
        have r2 : rd_T52 (L.map un) (wrap64 ((L.length : Int) - 1)) = un d := by rw [w2, hL3]; exact rd_un _ _ _ _ rfl
        have l1 : (T.reverse.length : Int) < (L.length : Int) := by rw [hn, List.length_reverse]; omega
        have l2 : ((T.reverse ++ [c]).length : Int) < (L.length : Int) := by rw [hn, List.length_append, List.length_reverse]; simp only [List.length_cons, List.length_nil]; omega
        rw [r1, r2, w1, w2, if_pos (by rw [hn]; omega), if_pos (by omega), if_pos l1, hq _ hr]
        have hcq : ((un c).f1 = 8219) = (c = qt) := by
          cases c with
          | g r =>
            apply propext
            show (r : Int) = 8219 ↔ Ch.g r = Ch.g 8219
            rw [Ch.g.injEq]
            omega
          | b x =>
            apply propext
            show (-1 : Int) = 8219 ↔ Ch.b x = Ch.g 8219
            constructor
            · intro h; omega
            · intro h; cases h
        by_cases hc : c = qt
        · rw [if_pos (hcq ▸ hc), if_pos (by omega), if_pos l2, takesRight_un]
          cases d with
          | g r => dsimp only [Option.bind_some]; simp [hc]
          | b x => rfl
        · rw [if_neg (hcq ▸ hc)]
          cases d with
          | g r => dsimp only; simp [hc]
          | b x => rfl
/-- Whether it is left open, as a truth. -/
def openB (m : Int) (s : ByteArray) : Bool := (hasB m 33554432 && (hasB m 262144 != hasB m 4194304) && (s.toList == [46, 239, 188, 142] || s.toList == [239, 188, 142, 46])) || quoteB m (chars (tl s))
theorem open_f (m : Int) (s : ByteArray) (hs : s.size ≤ 1000000000000) : Go.Proofs.YtonmnpmklkbioaaDoor.PM.spec_NameOpen.f 1 m s = some (openB m s) := by
  unfold Go.Proofs.YtonmnpmklkbioaaDoor.PM.spec_NameOpen.f openB
  rw [j0_is m s hs 0 false, j0_is m s hs 0 true, j0_is m s hs 0 _]
  simp only [hasB_ne]
  show (if hasB m 33554432 = false then _ else if (hasB m 262144 != hasB m 4194304) = true then _ else _) = _
  cases hasB m 33554432 with
  | false => rfl
  | true =>
    rw [if_neg (by decide)]
    cases hd : (hasB m 262144 != hasB m 4194304) with
    | false => rfl
    | true =>
      rw [if_pos rfl]
      by_cases h1 : s.toList = [46, 239, 188, 142]
      · rw [if_pos h1]
        simp [h1]
      · rw [if_neg h1]
        have : (s.toList == [46, 239, 188, 142]) = false := by simpa using h1
        rw [this]
        simp
theorem openB_is {m : Int} {s : ByteArray} (h : openB m s = false) : ¬ openN m s := by
  unfold openB at h
  rw [Bool.or_eq_false_iff] at h
  unfold openN Pt.Open
  have g1 : Pt.Good 46 := .inl (by omega)
  have g2 : Pt.Good 65294 := .inr ⟨by omega, by omega⟩
  have e1 : (tl s == [46, 239, 188, 142]) = decide (chars (tl s) = [.g 46, .g 65294]) := by
    rw [show ([46, 239, 188, 142] : List UInt8) = flat [.g 46, .g 65294] by decide]; exact Sy.chars_eq ⟨g1, g2, trivial⟩
  have e2 : (tl s == [239, 188, 142, 46]) = decide (chars (tl s) = [.g 65294, .g 46]) := by
    rw [show ([239, 188, 142, 46] : List UInt8) = flat [.g 65294, .g 46] by decide]; exact Sy.chars_eq ⟨g2, g1, trivial⟩
  rintro (⟨h1, h2, h3⟩ | h1)
  · have hd : hasB m 33554432 = true := h1
    have hl : (tkm m).l 46 = hasB m 262144 := by show ((false && _) || (true && _) || (false && _) || ((false || false || false || false) && _)) = _; simp
    have hr : (tkm m).r 46 = hasB m 4194304 := by show ((false && _) || (true && _) || ((false || false || false || false) && _)) = _; simp
    rw [hl, hr] at h2
    have hb : (hasB m 262144 != hasB m 4194304) = true := by simpa using h2
    have h4 := h.1
    rw [hd, hb, show s.toList = tl s from Sy.tl_eq s, e1, e2] at h4
    rcases h3 with h3 | h3 <;> rw [h3] at h4 <;> simp at h4
  · have := quoteB_is.2 h1
    rw [h.2] at this
    cases this
end Go.Proofs.YtonmnpmklkbioaaDoor.Given
/- The walk of laws.FnNameBack. -/
namespace Go.Proofs.YtonmnpmklkbioaaDoor.Given
open Go.RowKit Go.Proofs.YtonmnpmklkbioaaDoorW.PrintWords Go.Proofs.YtonmnpmklkbioaaDoorW.PrintLast Go.Proofs.YtonmnpmklkbioaaDoorW.PrintMore Go.Proofs.YtonmnpmklkbioaaDoor.PN
open Go.Proofs.YtonmnpmklkbioaaDoor.Sy (tl strB tl_size strB_tl tl_strB tkm tkm_ok hasB ErrOk)
set_option linter.unusedVariables false
set_option linter.unusedSimpArgs false
/-- What the laws ask of a world. -/
structure Wo (w : World) : Prop where
  tabs : Tabs w
  err : ErrOk w
theorem Wo.below {w w' : World} (h : Wo w) (hb : Below w.heap.size w w') : Wo w' := ⟨h.tabs.below hb, h.err.below hb⟩
set_option maxRecDepth 100000 in
theorem colon_is : encN 128 ⟨#[58]⟩ = ⟨#[239, 188, 154]⟩ := by decide +kernel
theorem short_cell (s : ByteArray) (w : World) (hs : s.size ≤ 2147483647) : Calls Tryd.prog 16 #[.slice (some ⟨w.heap.size, 0, none⟩) 1 1] (w.alloc (.cells #[.string s] 9)) fun e w' => e = .returned (.bool (decide ((s.size : Int) ≤ 65536))) ∧ Below w.heap.size w w' := by
  have hbw : Below w.heap.size w (w.alloc (.cells #[.string s] 9)) := (Below.refl _ w).alloc (Nat.le_refl _) _
  have hrow : Kd.C Kd.string (w.alloc (.cells #[.string s] 9)) (some ⟨w.heap.size, 0, none⟩) [s].length [s] := by
    refine ⟨rfl, by simp, fun _ => ⟨_, rfl, fun j p hj => ?_⟩⟩
    match j, hj with
    | 0, hj =>
      cases hj
      exact ⟨[.string s], rfl, rfl, fun i u hu => by
        match i, hu with
        | 0, hu => cases hu; simp [Addr.add]⟩
  refine (laws_encShort.calls 3 (some ⟨w.heap.size, 0, none⟩) 1 [s] _ _ hrow (Nat.le_refl 1) (short_one s hs)).mono ?_
  rintro e w' ⟨rfl, n, rfl⟩
  exact ⟨rfl, below_drewN' hbw n⟩
theorem open19 (m : Int) (s : ByteArray) (w : World) (hs : s.size ≤ 1000000000000) : Calls Tryd.prog 19 #[.int .u64 m, .string s] w fun e w' => e = .returned (.bool (openB m s)) ∧ Below w.heap.size w w' :=
  Go.Proofs.YtonmnpmklkbioaaDoor.PM.spec_NameOpen.calls 1 m s (openB m s) w (open_f m s hs)
set_option maxHeartbeats 2000000 in
set_option maxRecDepth 100000 in
theorem law7 (m : Int) (s : ByteArray) (w : World) (hW : Wo w) : Calls Tryd.prog 7 #[.int .u64 m, .string s] w fun e w' => e = .returned (.bool true) ∧ Below w.heap.size w w' := by
  by_cases hs : s.size ≤ 2147483647
  · have hs1 : ((s.size : Int) > 2147483647) = False := by simp; omega
    have c16 := fun w => short_cell s w hs
    obtain ⟨b, hb⟩ : ∃ b, decide ((s.size : Int) ≤ 65536) = b := ⟨_, rfl⟩
    rw [hb] at c16
    cases b with
    | false =>
      clear hb hs
      go_enter Tryd.func7, Tryd.ntmps7
      go_wp2_with (go_at_call 16; refine (c16 _).mono ?_; rintro e w1 ⟨rfl, h1⟩)
      go_ret
      exact ⟨rfl, h1⟩
    | true =>
      have hsz : (s.size : Int) ≤ 65536 := of_decide_eq_true hb
      have c19 := fun W => open19 m s W (by omega)
      have c15 := fun W (h : Wo W) => enc15 m s W (by omega) h.tabs
      have c2 := fun W (h : Wo W) => enc15 128 ⟨#[58]⟩ W (by decide) h.tabs
      rw [colon_is] at c2
      have c20 := fun W (h : Wo W) => dec20 m (encN m s) W (by have := encN_size m s; omega) h.tabs h.err
      cases ho : openB m s with
      | true =>
        rw [ho] at c19
        clear hb hs hsz c15 c2 c20 ho
        go_enter Tryd.func7, Tryd.ntmps7
        go_wp2_with (first | (go_at_call 16; refine (c16 _).mono ?_; rintro e w1 ⟨rfl, h1⟩) | (go_at_call 19; refine (c19 _).mono ?_; rintro e w2 ⟨rfl, h2⟩))
        go_ret
        exact ⟨rfl, h1.trans (h2.mono h1.size)⟩
      | false =>
        rw [back_is (openB_is ho)] at c20
        rw [ho] at c19
        obtain ⟨t, ht⟩ : ∃ t, encN m s = t := ⟨_, rfl⟩
        rw [ht] at c15 c20
        clear hb hs hsz ho ht
        go_enter Tryd.func7, Tryd.ntmps7
        go_wp2_with (first | (go_at_call 16; refine (c16 _).mono ?_; rintro e w1 ⟨rfl, h1⟩; have g1 := hW.below h1) | (go_at_call 19; refine (c19 _).mono ?_; rintro e w2 ⟨rfl, h2⟩; have g2 := g1.below h2) | (go_at_call 15; refine (c15 _ g2).mono ?_; rintro e w3 ⟨rfl, h3⟩; have g3 := g2.below h3) | (go_at_call 20; refine (c20 _ g3).mono ?_; rintro e w4 ⟨rfl, h4⟩; have g4 := g3.below h4) | (go_at_call 15; refine (c2 _ g4).mono ?_; rintro e w5 ⟨rfl, h5⟩))
        go_ret
        refine ⟨rfl, ?_⟩
        have k2 := h1.trans (h2.mono h1.size)
        have k3 := k2.trans (h3.mono k2.size)
        have k4 := k3.trans (h4.mono k3.size)
        exact k4.trans (h5.mono k4.size)
  · have hs1 : ((s.size : Int) > 2147483647) = True := by simp; omega
    go_enter Tryd.func7, Tryd.ntmps7
    go_wp2
    go_ret
    exact ⟨rfl, Below.refl _ w⟩
end Go.Proofs.YtonmnpmklkbioaaDoor.Given
/- The walk of laws.FnNameAgain. -/
namespace Go.Proofs.YtonmnpmklkbioaaDoor.Given
open Go.RowKit Go.Proofs.YtonmnpmklkbioaaDoorW.PrintWords Go.Proofs.YtonmnpmklkbioaaDoorW.PrintLast Go.Proofs.YtonmnpmklkbioaaDoorW.PrintMore Go.Proofs.YtonmnpmklkbioaaDoor.PN
open Go.Proofs.YtonmnpmklkbioaaDoor.Pt (Ch Tk flat chars signed betw leftC rightC encC dotC Pr)
open Go.Proofs.YtonmnpmklkbioaaDoor.Sy (tl strB tl_size strB_tl tl_strB tkm tkm_ok hasB ErrOk)
set_option linter.unusedVariables false
set_option linter.unusedSimpArgs false
/-- A character that no bit takes and that is no sign stays. -/
theorem enc_plain {k : Tk} {c : Ch} (hl : signed k.l c = none) (hr : signed k.r c = none) (hb : betw k c = [c]) (hd : c ≠ .g 46) (hd2 : c ≠ .g 65294) : encC k [c] = [c] := by
  have h1 : dotC k [c] = none := by
    unfold dotC
    split
    · rw [if_neg (by simpa using hd), if_neg (by simp), if_neg (by simpa using hd2), if_neg (by simp)]
    · rfl
  have h2 : leftC k [c] = ([], [c]) := by
    have e : leftC k [c] = match signed k.l c with
      | some t => (t, [])
      | none => ([], [c]) := rfl
    rw [e, hl]
  have h3 : rightC k [c] = ([c], []) := by
    unfold rightC
    rw [show [c].getLast? = some c from rfl]
    dsimp only
    rw [hr]
  unfold encC
  rw [h1, h2]
  dsimp only
  rw [h3]
  simp [hb]
theorem enc_letter (m : Int) (c : UInt8) (h0 : 97 ≤ c.toNat) (h1 : c.toNat ≤ 122) : encN m ⟨#[c]⟩ = ⟨#[c]⟩ := by
  unfold encN
  by_cases hm : m = 1
  · rw [if_pos hm]
  · rw [if_neg hm]
    have hc : chars (tl (⟨#[c]⟩ : ByteArray)) = [.g c.toNat] := (Sy.hd_low (x := c) (by omega) []).2
    have hs : ∀ P : Nat → Bool, P c.toNat = false → signed P (.g c.toNat) = none := by
      intro P hP
      rw [Pt.signed_g, hP, Pt.sof_none (by omega)]
      rfl
    have b : ∀ x : Nat, c.toNat ≠ x → Nat.beq c.toNat x = false := by
      intro x hx
      cases hb : Nat.beq c.toNat x with
      | false => rfl
      | true => exact absurd (by simpa using hb) hx
    have ht : (tkm m).t c.toNat = false := by
      show (Nat.beq c.toNat 0 || (Sy.bitsOf c.toNat).any (hasB m)) = false
      have : Sy.bitsOf c.toNat = [] := by
        unfold Sy.bitsOf
        repeat rw [if_neg (by omega)]
      rw [this, b 0 (by omega)]
      rfl
    have hl : (tkm m).l c.toNat = false := by
      show ((Nat.beq c.toNat 32 && _) || (Nat.beq c.toNat 46 && _) || (Nat.beq c.toNat 126 && _) || ((Nat.beq c.toNat 9 || Nat.beq c.toNat 10 || Nat.beq c.toNat 11 || Nat.beq c.toNat 13) && _)) = false
      rw [b 32 (by omega), b 46 (by omega), b 126 (by omega), b 9 (by omega), b 10 (by omega), b 11 (by omega), b 13 (by omega)]
      rfl
    have hr : (tkm m).r c.toNat = false := by
      show ((Nat.beq c.toNat 32 && _) || (Nat.beq c.toNat 46 && _) || ((Nat.beq c.toNat 9 || Nat.beq c.toNat 10 || Nat.beq c.toNat 11 || Nat.beq c.toNat 13) && _)) = false
      rw [b 32 (by omega), b 46 (by omega), b 9 (by omega), b 10 (by omega), b 11 (by omega), b 13 (by omega)]
      rfl
    have hb : betw (tkm m) (.g c.toNat) = [.g c.toNat] := by
      rw [Pt.betw_g, if_neg (by omega), hs _ ht]
      rfl
    rw [hc, enc_plain (hs _ hl) (hs _ hr) hb (by simp; omega) (by simp; omega), Sy.flat_one]
    show strB (Lib.encodeRune ((c.toNat : Nat) : Int)) = _
    rw [Sy.enc_lt (by omega)]
    rfl
set_option maxHeartbeats 4000000 in
set_option maxRecDepth 100000 in
theorem law6 (m n : Int) (s : ByteArray) (w : World) (hW : Wo w) : Calls Tryd.prog 6 #[.int .u64 m, .int .u64 n, .string s] w fun e w' => e = .returned (.bool true) ∧ Below w.heap.size w w' := by
  by_cases hs : s.size ≤ 2147483647
  · have hs1 : ((s.size : Int) > 2147483647) = False := by simp; omega
    have c16 := fun w => short_cell s w hs
    obtain ⟨b, hb⟩ : ∃ b, decide ((s.size : Int) ≤ 65536) = b := ⟨_, rfl⟩
    rw [hb] at c16
    cases b with
    | false =>
      clear hb hs
      go_enter Tryd.func6, Tryd.ntmps6
      go_wp2_with (go_at_call 16; refine (c16 _).mono ?_; rintro e w1 ⟨rfl, h1⟩; clear c16)
      go_ret
      exact ⟨rfl, h1⟩
    | true =>
      have hsz : (s.size : Int) ≤ 65536 := of_decide_eq_true hb
      have l1 := encN_size m s
      have l2 := encN_size n (encN m s)
      have c19 := fun W => open19 m s W (by omega)
      have c17 := fun W => enc17 m s W (by omega)
      have d19 := fun W => open19 n (encN m s) W (by omega)
      have c15 := fun W (h : Wo W) => enc15 m s W (by omega) h.tabs
      have d15 := fun W (h : Wo W) => enc15 n (encN m s) W (by omega) h.tabs
      have d20 := fun W (h : Wo W) => dec20 n (encN n (encN m s)) W (by omega) h.tabs h.err
      have c20 := fun W (h : Wo W) => dec20 m (encN m s) W (by omega) h.tabs h.err
      have x15 := fun W (h : Wo W) => enc15 m ⟨#[120]⟩ W (by decide) h.tabs
      rw [enc_letter m 120 (by decide) (by decide)] at x15
      cases ho : openB m s with
      | true =>
        rw [ho] at c19
        clear hb hs hsz c15 c17 d19 d15 d20 c20 x15 ho l1 l2
        go_enter Tryd.func6, Tryd.ntmps6
        go_wp2_with (first | (go_at_call 16; refine (c16 _).mono ?_; rintro e w1 ⟨rfl, h1⟩; clear c16) | (go_at_call 19; refine (c19 _).mono ?_; rintro e w2 ⟨rfl, h2⟩; clear c19))
        go_ret
        exact ⟨rfl, h1.trans (h2.mono h1.size)⟩
      | false =>
        rw [ho] at c19
        rw [back_is (openB_is ho)] at c20
        cases ho2 : openB n (encN m s) with
        | true =>
          rw [ho2] at d19
          obtain ⟨t, ht⟩ : ∃ t, encN m s = t := ⟨_, rfl⟩
          rw [ht] at c17 d19
          clear hb hs hsz c15 d15 d20 c20 x15 ho l1 l2 ho2 ht
          go_enter Tryd.func6, Tryd.ntmps6
          go_wp2_with (first | (go_at_call 16; refine (c16 _).mono ?_; rintro e w1 ⟨rfl, h1⟩; clear c16) | (go_at_call 19; refine (c19 _).mono ?_; rintro e w2 ⟨rfl, h2⟩; clear c19) | (go_at_call 17; refine (c17 _).mono ?_; rintro e w3 ⟨rfl, h3⟩; clear c17) | (go_at_call 19; refine (d19 _).mono ?_; rintro e w4 ⟨rfl, h4⟩; clear d19))
          go_ret
          have k2 := h1.trans (h2.mono h1.size)
          have k3 := k2.trans (h3.mono k2.size)
          exact ⟨rfl, k3.trans (h4.mono k3.size)⟩
        | false =>
          rw [ho2] at d19
          rw [back_is (openB_is ho2)] at d20
          obtain ⟨t, ht⟩ : ∃ t, encN m s = t := ⟨_, rfl⟩
          rw [ht] at c17 d19 c15 d15 d20 c20
          obtain ⟨u, hu⟩ : ∃ u, encN n t = u := ⟨_, rfl⟩
          rw [hu] at d15 d20
          clear hb hs hsz ho l1 l2 ho2 ht hu
          go_enter Tryd.func6, Tryd.ntmps6
          go_wp2_with (first | (go_at_call 16; refine (c16 _).mono ?_; rintro e w1 ⟨rfl, h1⟩; have g1 := hW.below h1; clear c16) | (go_at_call 19; refine (c19 _).mono ?_; rintro e w2 ⟨rfl, h2⟩; have g2 := g1.below h2; clear c19) | (go_at_call 17; refine (c17 _).mono ?_; rintro e w3 ⟨rfl, h3⟩; have g3 := g2.below h3; clear c17) | (go_at_call 19; refine (d19 _).mono ?_; rintro e w4 ⟨rfl, h4⟩; have g4 := g3.below h4; clear d19) | (go_at_call 15; refine (c15 _ g4).mono ?_; rintro e w5 ⟨rfl, h5⟩; have g5 := g4.below h5; clear c15) | (go_at_call 15; refine (d15 _ g5).mono ?_; rintro e w6 ⟨rfl, h6⟩; have g6 := g5.below h6; clear d15) | (go_at_call 20; refine (d20 _ g6).mono ?_; rintro e w7 ⟨rfl, h7⟩; have g7 := g6.below h7; clear d20) | (go_at_call 20; refine (c20 _ g7).mono ?_; rintro e w8 ⟨rfl, h8⟩; have g8 := g7.below h8; clear c20) | (go_at_call 15; refine (x15 _ g8).mono ?_; rintro e w9 ⟨rfl, h9⟩; clear x15))
          go_ret
          have k2 := h1.trans (h2.mono h1.size)
          have k3 := k2.trans (h3.mono k2.size)
          have k4 := k3.trans (h4.mono k3.size)
          have k5 := k4.trans (h5.mono k4.size)
          have k6 := k5.trans (h6.mono k5.size)
          have k7 := k6.trans (h7.mono k6.size)
          have k8 := k7.trans (h8.mono k7.size)
          exact ⟨rfl, k8.trans (h9.mono k8.size)⟩
  · have hs1 : ((s.size : Int) > 2147483647) = True := by simp; omega
    go_enter Tryd.func6, Tryd.ntmps6
    go_wp2
    go_ret
    exact ⟨rfl, Below.refl _ w⟩
end Go.Proofs.YtonmnpmklkbioaaDoor.Given
/- The walk of laws.FnNameStays. -/
namespace Go.Proofs.YtonmnpmklkbioaaDoor.Given
open Go.RowKit Go.Proofs.YtonmnpmklkbioaaDoorW.PrintWords Go.Proofs.YtonmnpmklkbioaaDoorW.PrintLast Go.Proofs.YtonmnpmklkbioaaDoorW.PrintMore Go.Proofs.YtonmnpmklkbioaaDoor.PN Go.Proofs.YtonmnpmklkbioaaDoor.PM
open Go.Proofs.YtonmnpmklkbioaaDoor.Pt (Ch Tk flat chars signed betw leftC rightC encC dotC Pr qt sof decC dleft dright dmid undotC lsign)
open Go.Proofs.YtonmnpmklkbioaaDoor.Sy (tl strB tl_size strB_tl tl_strB tkm tkm_ok hasB ErrOk)
set_option linter.unusedVariables false
set_option linter.unusedSimpArgs false
def takesC (m : Int) : Ch → Bool
  | .g r => (tkm m).t r
  | .b _ => false
def leftB (m : Int) : Ch → Bool
  | .g r => (tkm m).l r
  | .b _ => false
def rightB (m : Int) : Ch → Bool
  | .g r => (tkm m).r r
  | .b _ => false
def badB : Ch → Bool
  | .g _ => false
  | .b _ => true
theorem takes_un (m : Int) (k : Nat) (c : Ch) : spec_Takes.f (k + 3) m (un c).f1 = some (takesC m c) := by
  cases c with
  | g r => exact takes_is m k r
  | b x => exact takes_neg m (k + 3)
theorem takesLeft_un (m : Int) (c : Ch) : spec_TakesLeft.f m (un c).f1 = some (leftB m c) := by
  cases c with
  | g r => exact takesLeft_is m r
  | b x => rfl
theorem takesRight_un2 (m : Int) (c : Ch) : spec_TakesRight.f m (un c).f1 = some (rightB m c) := by
  cases c with
  | g r => exact takesRight_is m r
  | b x => rfl
theorem un_f2 (c : Ch) : (un c).f2 = badB c := by cases c <;> rfl
theorem w64s {n : Nat} (h : n ≤ 1000000000000) : wrap64 ((n : Int) + 1) = ((n + 1 : Nat) : Int) := by unfold wrap64; omega
def keepB (m : Int) (c : Ch) : Bool := !takesC m c && !(badB c && hasB m 16777216)
def endsB (m : Int) (L : List Ch) : Bool := match L.head?, L.getLast? with
  | some a, some b => !leftB m a && !rightB m b
  | _, _ => true
theorem rd_last (M : List Ch) (d : Ch) : rd_T52 ((M ++ [d]).map un) (M.length : Int) = un d := rd_un M d [] _ rfl
theorem kept_l0 (m : Int) {L : List Ch} (hL : L ≠ []) (hn : L.length ≤ 1000000000000) : ∀ (R A : List Ch), L = A ++ R →
    laws_encKept.l0 (R.length + 4) m (L.map un) (L.map un) (L.length : Int) (A.length : Int) = some (R.all (keepB m) && endsB m L) := by
  intro R
  induction R with
  | nil =>
    intro A hA
    rw [List.append_nil] at hA
    rw [show ([] : List Ch).length + 4 = 3 + 1 from rfl]
    unfold laws_encKept.l0
    dsimp only
    obtain ⟨a, T, hT⟩ : ∃ a T, L = a :: T := by
      cases L with
      | nil => exact absurd rfl hL
      | cons a T => exact ⟨a, T, rfl⟩
    obtain ⟨M, d, hM⟩ : ∃ M d, L = M ++ [d] := ⟨L.dropLast, L.getLast hL, (List.dropLast_concat_getLast hL).symm⟩
    have r0 : rd_T52 (L.map un) 0 = un a := by rw [hT]; exact rd_un [] a T 0 rfl
    have hml : L.length = M.length + 1 := by rw [hM]; simp
    have wl : wrap64 ((L.length : Int) - 1) = (M.length : Int) := by rw [hml]; unfold wrap64; omega
    have r1 : rd_T52 (L.map un) (M.length : Int) = un d := by rw [hM]; exact rd_last M d
    have hE : endsB m L = (!leftB m a && !rightB m d) := by
      unfold endsB
      have e1 : L.head? = some a := by rw [hT]; rfl
      have e2 : L.getLast? = some d := by rw [hM]; exact List.getLast?_concat
      rw [e1, e2]
    rw [if_neg (by rw [← hA]; omega), List.length_map, if_pos (by omega), wl, r0, r1, takesLeft_un, takesRight_un2, hE]
    simp only [Option.bind_some, List.all_nil, Bool.true_and]
    cases leftB m a with
    | true => rfl
    | false =>
      rw [if_neg (by decide), if_pos (by omega), if_pos (by omega)]
      rfl
  | cons c R ih =>
    intro A hA
    have ih' := ih (A ++ [c]) (by rw [hA]; simp)
    have hlen : L.length = A.length + (R.length + 1) := by rw [hA]; simp
    have hi : rd_T52 (L.map un) (A.length : Int) = un c := by rw [hA]; exact rd_un A c R _ rfl
    have e1 : ((A ++ [c]).length : Int) = ((A.length + 1 : Nat) : Int) := by simp
    rw [e1, ← w64s (by omega)] at ih'
    rw [show (c :: R).length + 4 = (R.length + 4) + 1 by rw [List.length_cons]]
    unfold laws_encKept.l0
    try dsimp only
    rw [if_pos (by omega), if_pos (by omega), List.length_map, if_pos (by omega), hi, show R.length + 4 = (R.length + 1) + 3 by omega, takes_un, un_f2]
    rw [show R.length + 4 = (R.length + 1) + 3 by omega] at ih'
    dsimp only [Option.bind_some]
    rw [List.all_cons, show keepB m c = (!takesC m c && !(badB c && hasB m 16777216)) from rfl]
    have hbz : (Go.bits .and .u64 m 16777216 = 0) = (hasB m 16777216 = false) := hasB_ne m 16777216
    cases takesC m c with
    | true => rfl
    | false =>
      rw [if_neg (by decide)]
      cases badB c with
      | false =>
        rw [if_neg (by decide), ih']
        rfl
      | true =>
        rw [if_pos rfl]
        cases hb : hasB m 16777216 with
        | false =>
          rw [if_pos (hbz ▸ hb), ih']
          rfl
        | true =>
          rw [if_neg (by rw [hbz, hb]; decide)]
          rfl
def dotB (m : Int) (s : ByteArray) : Bool := hasB m 33554432 && (s.toList == [46] || s.toList == [46, 46])
def keptB (m : Int) (s : ByteArray) : Bool := s.toList == [] || (!dotB m s && ((chars (tl s)).all (keepB m) && endsB m (chars (tl s))))
theorem units_f {s : ByteArray} (hs : s.size ≤ 1000000000000) : spec_Units.f s = some ((chars (tl s)).map un) := by unfold spec_Units.f; rw [if_pos hs]
theorem chars_ne {s : ByteArray} (h : s.toList ≠ []) : chars (tl s) ≠ [] := by
  intro e
  apply h
  rw [Sy.tl_eq]
  have := Pt.flat_chars' (tl s)
  rw [e] at this
  exact this.symm
theorem kept_j0 (m : Int) (s : ByteArray) (hs : s.size ≤ 1000000000000) (hne : s.toList ≠ []) (b : Bool) : laws_encKept.j0 ((chars (tl s)).length + 5) m s b = some (!b && ((chars (tl s)).all (keepB m) && endsB m (chars (tl s)))) := by
  have hlen := chars_len_le (tl s)
  rw [tl_size] at hlen
  rw [show (chars (tl s)).length + 5 = ((chars (tl s)).length + 4) + 1 by omega]
  unfold laws_encKept.j0
  dsimp only
  rw [units_f hs]
  cases b with
  | true => rfl
  | false =>
    rw [if_neg (by decide)]
    dsimp only [Option.bind_some]
    rw [List.length_map]
    exact kept_l0 m (chars_ne hne) (by omega) (chars (tl s)) [] rfl
theorem kept_f (m : Int) (s : ByteArray) (hs : s.size ≤ 1000000000000) : laws_encKept.f ((chars (tl s)).length + 5) m s = some (keptB m s) := by
  unfold laws_encKept.f keptB dotB
  by_cases h0 : s.toList = []
  · rw [if_pos h0, h0]; rfl
  · have e0 : (s.toList == []) = false := by simpa using h0
    have hbz : (Go.bits .and .u64 m 33554432 = 0) = (hasB m 33554432 = false) := hasB_ne m 33554432
    rw [if_neg h0, kept_j0 m s hs h0 false, kept_j0 m s hs h0 true, kept_j0 m s hs h0 _, e0]
    cases hb : hasB m 33554432 with
    | false => rw [if_pos (hbz ▸ hb)]; rfl
    | true =>
      rw [if_neg (by rw [hbz, hb]; decide)]
      by_cases h1 : s.toList = [46]
      · rw [if_pos h1, h1]; rfl
      · rw [if_neg h1]
        have e1 : (s.toList == [46]) = false := by simpa using h1
        rw [e1]
        rfl
/-! encNothing -/
def stepB (m : Int) (first last : Bool) : Ch → Bool
  | .b _ => true
  | .g r => !decide (r = 8219) && match sof r with
    | none => true
    | some a => !(tkm m).t a && !(first && (tkm m).l a) && !(last && (tkm m).r a)
def notB (m : Int) (n : Nat) : Nat → List Ch → Bool
  | _, [] => true
  | i, c :: R => stepB m (decide (i = 0)) (decide (i + 1 = n)) c && notB m n (i + 1) R
def sgC : Ch → Int
  | .g r => sofI r
  | .b _ => -1
theorem signOf_un (k : Nat) {c : Ch} (h : ∀ r, c = .g r → r ≤ 1114111) : spec_SignOf.f (k + 2) (un c).f1 = some (sgC c) := by
  cases c with
  | g r => exact signOf_is k (h r rfl)
  | b x => exact signOf_neg k
theorem not_l0 (m : Int) {L : List Ch} (hp : Pr L) (hn : L.length ≤ 1000000000000) : ∀ (R A : List Ch), L = A ++ R →
    laws_encNothing.l0 (R.length + 4) m (L.map un) (L.map un) (L.length : Int) (A.length : Int) = some (notB m L.length A.length R) := by
  intro R
  induction R with
  | nil =>
    intro A hA
    rw [List.append_nil] at hA
    rw [show ([] : List Ch).length + 4 = 3 + 1 from rfl]
    unfold laws_encNothing.l0
    dsimp only
    rw [if_neg (by rw [← hA]; omega)]
    rfl
  | cons c R ih =>
    intro A hA
    have ih' := ih (A ++ [c]) (by rw [hA]; simp)
    have hlen : L.length = A.length + (R.length + 1) := by rw [hA]; simp
    have hi : rd_T52 (L.map un) (A.length : Int) = un c := by rw [hA]; exact rd_un A c R _ rfl
    have e1 : (A ++ [c]).length = A.length + 1 := by simp
    rw [e1, ← w64s (by omega)] at ih'
    have wl : wrap64 ((L.length : Int) - 1) = ((L.length - 1 : Nat) : Int) := by unfold wrap64; omega
    have hgood : ∀ r, c = .g r → r ≤ 1114111 := by
      intro r hr
      have := pr_good hp c (by rw [hA]; simp) r hr
      unfold Pt.Good at this
      omega
    have hq : ((un c).f1 = 8219) = (c = qt) := by
      cases c with
      | g r =>
        apply propext
        show (r : Int) = 8219 ↔ Ch.g r = Ch.g 8219
        rw [Ch.g.injEq]
        omega
      | b x =>
        apply propext
        show (-1 : Int) = 8219 ↔ Ch.b x = Ch.g 8219
        constructor
        · intro h; omega
        · intro h; cases h
    rw [show (c :: R).length + 4 = (R.length + 4) + 1 by rw [List.length_cons]]
    unfold laws_encNothing.l0
    try dsimp only
    have hsg := signOf_un (R.length + 2) hgood
    rw [show R.length + 2 + 2 = R.length + 4 by omega] at hsg
    rw [if_pos (by omega), if_pos (by omega), List.length_map, if_pos (by omega), hi, hsg, wl]
    dsimp only [Option.bind_some]
    have hnB : notB m L.length A.length (c :: R) = (stepB m (decide (A.length = 0)) (decide (A.length + 1 = L.length)) c && notB m L.length (A.length + 1) R) := rfl
    rw [hnB]
    cases c with
    | b x =>
      rw [if_neg (by rw [hq]; intro h; cases h), if_neg (show ¬ sgC (.b x) ≥ 0 from (show ¬ (-1 : Int) ≥ 0 by decide)), ih']
      rfl
    | g r =>
      have hst : ∀ p q, stepB m p q (.g r) = (!decide (r = 8219) && match sof r with
          | none => true
          | some a => !(tkm m).t a && !(p && (tkm m).l a) && !(q && (tkm m).r a)) := fun _ _ => rfl
      rw [hst]
      by_cases h8 : r = 8219
      · rw [if_pos (hq ▸ (by rw [h8])), h8]
        rfl
      · rw [if_neg (by rw [hq]; simpa using h8)]
        rw [show decide (r = 8219) = false by simpa using h8, show sgC (.g r) = (match sof r with
          | some a => (a : Int)
          | none => -1) from rfl]
        cases hs : sof r with
        | none =>
          dsimp only
          rw [if_neg (by decide), ih']
          rfl
        | some a =>
          dsimp only
          have t1 : ∀ k, spec_Takes.f (k + 3) m (a : Int) = some ((tkm m).t a) := fun k => takes_is m k a
          have f0 : ((A.length : Int) = 0) = (A.length = 0) := by apply propext; omega
          have f1 : ((A.length : Int) = ((L.length - 1 : Nat) : Int)) = (A.length + 1 = L.length) := by apply propext; omega
          rw [if_pos (Int.natCast_nonneg a), show R.length + 4 = (R.length + 1) + 3 by omega, t1]
          rw [show R.length + 4 = (R.length + 1) + 3 by omega] at ih'
          dsimp only [Option.bind_some]
          cases (tkm m).t a with
          | true => rfl
          | false =>
            rw [if_neg (by decide)]
            simp only [f0, f1]
            rw [takesLeft_is, takesRight_is]
            dsimp only [Option.bind_some]
            rw [ih']
            by_cases h0 : A.length = 0
            · rw [if_pos h0, show decide (A.length = 0) = true by simpa using h0]
              cases (tkm m).l a with
              | true => rfl
              | false =>
                rw [if_neg (by decide)]
                by_cases h1 : A.length + 1 = L.length
                · rw [if_pos h1, show decide (A.length + 1 = L.length) = true by simpa using h1]
                  cases (tkm m).r a <;> rfl
                · rw [if_neg h1, show decide (A.length + 1 = L.length) = false by simpa using h1]
                  rfl
            · rw [if_neg h0, show decide (A.length = 0) = false by simpa using h0]
              by_cases h1 : A.length + 1 = L.length
              · rw [if_pos h1, show decide (A.length + 1 = L.length) = true by simpa using h1]
                cases (tkm m).r a <;> rfl
              · rw [if_neg h1, show decide (A.length + 1 = L.length) = false by simpa using h1]
                rfl
def nothingB (m : Int) (s : ByteArray) : Bool := keptB m s && !(hasB m 33554432 && (s.toList == [239, 188, 142] || s.toList == [239, 188, 142, 239, 188, 142])) && notB m (chars (tl s)).length 0 (chars (tl s))
theorem not_j0 (m : Int) (s : ByteArray) (hs : s.size ≤ 1000000000000) (b : Bool) : laws_encNothing.j0 ((chars (tl s)).length + 5) m s b = some (!b && notB m (chars (tl s)).length 0 (chars (tl s))) := by
  have hlen := chars_len_le (tl s)
  rw [tl_size] at hlen
  rw [show (chars (tl s)).length + 5 = ((chars (tl s)).length + 4) + 1 by omega]
  unfold laws_encNothing.j0
  dsimp only
  rw [units_f hs]
  cases b with
  | true => rfl
  | false =>
    rw [if_neg (by decide)]
    dsimp only [Option.bind_some]
    rw [List.length_map]
    exact not_l0 m (Pt.pr_chars _) (by omega) (chars (tl s)) [] rfl
theorem nothing_f (m : Int) (s : ByteArray) (hs : s.size ≤ 1000000000000) : laws_encNothing.f ((chars (tl s)).length + 5) m s = some (nothingB m s) := by
  unfold laws_encNothing.f nothingB
  rw [kept_f m s hs]
  dsimp only [Option.bind_some]
  have hbz : (Go.bits .and .u64 m 33554432 = 0) = (hasB m 33554432 = false) := hasB_ne m 33554432
  rw [not_j0 m s hs false, not_j0 m s hs true, not_j0 m s hs _]
  cases keptB m s with
  | false => rfl
  | true =>
    rw [if_pos rfl]
    cases hb : hasB m 33554432 with
    | false => rw [if_pos (hbz ▸ hb)]; rfl
    | true =>
      rw [if_neg (by rw [hbz, hb]; decide)]
      by_cases h1 : s.toList = [239, 188, 142]
      · rw [if_pos h1, h1]; rfl
      · rw [if_neg h1]
        have e1 : (s.toList == [239, 188, 142]) = false := by simpa using h1
        rw [e1]
        rfl
/-! what has nothing to do with a mask stays -/
theorem not_at {m : Int} {n : Nat} : ∀ (L : List Ch) (i : Nat), notB m n i L = true → ∀ A c R, L = A ++ c :: R → stepB m (decide (i + A.length = 0)) (decide (i + A.length + 1 = n)) c = true
  | [], i, h => by intro A c R e; simp at e
  | d :: L, i, h => by
    have h' : (stepB m (decide (i = 0)) (decide (i + 1 = n)) d && notB m n (i + 1) L) = true := h
    rw [Bool.and_eq_true] at h'
    intro A c R e
    cases A with
    | nil =>
      cases e
      simpa using h'.1
    | cons a A =>
      cases e
      have := not_at (A ++ c :: R) (i + 1) h'.2 A c R rfl
      rw [List.length_cons, show i + (A.length + 1) = i + 1 + A.length by omega]
      exact this
theorem stays_plain {k : Tk} {L : List Ch} (hd : dotC k L = none) (hu : undotC k L = none) (hb : ∀ c ∈ L, betw k c = [c]) (hs : ∀ c ∈ L, c ≠ qt ∧ lsign k.t c = none)
    (hl : ∀ c R, L = c :: R → signed k.l c = none) (hr : ∀ M c, L = M ++ [c] → signed k.r c = none) : encC k L = L ∧ decC k L = L := by
  have h1 : leftC k L = ([], L) := by
    rcases Pt.left_cases k L with ⟨c, t, R, e, h, _⟩ | ⟨h, _⟩
    · rw [hl c R e] at h; cases h
    · exact h
  have h2 : rightC k L = (L, []) := by
    rcases Pt.right_cases k L with ⟨M, c, t, e, h, _⟩ | ⟨h, _⟩
    · rw [hr M c e] at h; cases h
    · exact h
  constructor
  · unfold encC
    rw [hd, h1]
    dsimp only
    rw [h2]
    dsimp only
    rw [List.nil_append, List.append_nil]
    have key : ∀ M : List Ch, (∀ c ∈ M, betw k c = [c]) → M.flatMap (betw k) = M := by
      intro M
      induction M with
      | nil => intro _; rfl
      | cons c M ih =>
        intro h
        rw [List.flatMap_cons, h c List.mem_cons_self, ih (fun d hd => h d (List.mem_cons_of_mem _ hd))]
        rfl
    exact key L hb
  · have h3 : dleft k L = ([], L) := by
      refine Pt.dleft_none ?_
      cases L with
      | nil => exact .inl rfl
      | cons c R =>
        refine .inr ⟨c, R, rfl, Pt.lsign_of_signed (hl c R rfl), fun e => absurd e (hs c List.mem_cons_self).1⟩
    have h4 : dright k L = (L, []) := by
      refine Pt.dright_none ?_
      by_cases hL : L = []
      · exact .inl hL
      · obtain ⟨M, c, rfl⟩ : ∃ M c, L = M ++ [c] := ⟨L.dropLast, L.getLast hL, (List.dropLast_concat_getLast hL).symm⟩
        exact .inr ⟨c, List.getLast?_concat, Pt.lsign_of_signed (hr M c rfl)⟩
    unfold decC
    rw [hu, h3]
    dsimp only
    rw [h4]
    dsimp only
    rw [List.nil_append, List.append_nil]
    have key : ∀ M : List Ch, (∀ c ∈ M, c ≠ qt ∧ lsign k.t c = none) → dmid k M.length M = M := by
      intro M
      induction M with
      | nil => intro _; rfl
      | cons c M ih =>
        intro h
        rw [List.length_cons, Sy.dmid_plain (h c List.mem_cons_self), ih (fun d hd => h d (List.mem_cons_of_mem _ hd))]
    exact key L hs
theorem stays_is {m : Int} {s : ByteArray} (h : nothingB m s = true) : encN m s = s ∧ decN m s = s := by
  unfold nothingB at h
  rw [Bool.and_eq_true, Bool.and_eq_true] at h
  obtain ⟨⟨hk, hdw⟩, hnot⟩ := h
  unfold encN decN
  by_cases hm : m = 1
  · rw [if_pos hm, if_pos hm]; exact ⟨rfl, rfl⟩
  · rw [if_neg hm, if_neg hm]
    have hfl := Pt.flat_chars' (tl s)
    have g1 : Pt.Good 46 := .inl (by omega)
    have g2 : Pt.Good 65294 := .inr ⟨by omega, by omega⟩
    have e1 : (tl s == [46]) = decide (chars (tl s) = [.g 46]) := by
      rw [show ([46] : List UInt8) = flat [.g 46] by decide]; exact Sy.chars_eq ⟨g1, trivial⟩
    have e2 : (tl s == [46, 46]) = decide (chars (tl s) = [.g 46, .g 46]) := by
      rw [show ([46, 46] : List UInt8) = flat [.g 46, .g 46] by decide]; exact Sy.chars_eq ⟨g1, g1, trivial⟩
    have e3 : (tl s == [239, 188, 142]) = decide (chars (tl s) = [.g 65294]) := by
      rw [show ([239, 188, 142] : List UInt8) = flat [.g 65294] by decide]; exact Sy.chars_eq ⟨g2, trivial⟩
    have e4 : (tl s == [239, 188, 142, 239, 188, 142]) = decide (chars (tl s) = [.g 65294, .g 65294]) := by
      rw [show ([239, 188, 142, 239, 188, 142] : List UInt8) = flat [.g 65294, .g 65294] by decide]; exact Sy.chars_eq ⟨g2, g2, trivial⟩
    have htl : s.toList = tl s := Sy.tl_eq s
    rw [htl, e3, e4] at hdw
    unfold keptB dotB at hk
    rw [htl, e1, e2] at hk
    obtain ⟨L, hL⟩ : ∃ L, chars (tl s) = L := ⟨_, rfl⟩
    rw [hL] at hfl hdw hk hnot ⊢
    have hstep := fun A c R (e : L = A ++ c :: R) => not_at L 0 hnot A c R e
    by_cases hL0 : L = []
    · subst hL0
      have hd : dotC (tkm m) [] = none := by unfold dotC; split <;> rfl
      have hu : undotC (tkm m) [] = none := by unfold undotC; split <;> rfl
      have := stays_plain hd hu (fun c hc => by cases hc) (fun c hc => by cases hc) (fun c R e => by cases e) (fun M c e => by simp at e)
      rw [this.1, this.2, hfl, strB_tl]
      exact ⟨rfl, rfl⟩
    · have hk2 : (!(hasB m 33554432 && (decide (L = [.g 46]) || decide (L = [.g 46, .g 46]))) && (L.all (keepB m) && endsB m L)) = true := by
        rw [Bool.or_eq_true] at hk
        rcases hk with h | h
        · exfalso
          have : tl s = [] := by simpa using h
          rw [this] at hL
          exact hL0 hL.symm
        · exact h
      rw [Bool.and_eq_true, Bool.and_eq_true] at hk2
      obtain ⟨hdot, hkeep, hends⟩ := hk2
      have hq : ∀ c ∈ L, c ≠ qt ∧ lsign (tkm m).t c = none ∧ signed (tkm m).t c = none ∧ (badB c = true → hasB m 16777216 = false) := by
        intro c hc
        obtain ⟨A, R, hA⟩ := List.append_of_mem hc
        have h1 := hstep A c R hA
        have h2 := List.all_eq_true.1 hkeep c hc
        unfold keepB at h2
        rw [Bool.and_eq_true] at h2
        cases c with
        | b x =>
          refine ⟨fun e => (by cases e), rfl, rfl, fun _ => ?_⟩
          simpa [badB] using h2.2
        | g r =>
          unfold stepB at h1
          rw [Bool.and_eq_true] at h1
          have h8 : r ≠ 8219 := by simpa using h1.1
          have ht : (tkm m).t r = false := by simpa [takesC] using h2.1
          have hsn : signed (tkm m).t (.g r) = none := by
            rw [Pt.signed_g, ht]
            cases hs : sof r with
            | none => rfl
            | some a =>
              have h3 := h1.2
              rw [hs] at h3
              simp only [Bool.and_eq_true, Bool.not_eq_true'] at h3
              dsimp only
              rw [h3.1.1]
              rfl
          exact ⟨by simpa using h8, Pt.lsign_of_signed hsn, hsn, fun e => by cases e⟩
      have hd : dotC (tkm m) L = none := by
        unfold dotC
        show (if hasB m 33554432 = true then _ else none) = none
        cases hb : hasB m 33554432 with
        | false => rfl
        | true =>
          rw [hb] at hdw hdot
          simp only [Bool.true_and, Bool.not_eq_true', Bool.or_eq_false_iff, decide_eq_false_iff_not] at hdw hdot
          rw [if_pos rfl, if_neg hdot.1, if_neg hdot.2, if_neg hdw.1, if_neg hdw.2]
      have hu : undotC (tkm m) L = none := by
        unfold undotC
        show (if hasB m 33554432 = true then _ else none) = none
        cases hb : hasB m 33554432 with
        | false => rfl
        | true =>
          rw [hb] at hdw
          simp only [Bool.true_and, Bool.not_eq_true', Bool.or_eq_false_iff, decide_eq_false_iff_not] at hdw
          have nq : ∀ T, L ≠ qt :: T := by
            intro T e
            exact (hq qt (by rw [e]; exact List.mem_cons_self)).1 rfl
          rw [if_pos rfl, if_neg hdw.1, if_neg hdw.2, if_neg (nq _), if_neg (nq _)]
      have hb : ∀ c ∈ L, betw (tkm m) c = [c] := by
        intro c hc
        have h1 := hq c hc
        cases c with
        | b x =>
          rw [Pt.betw_b]
          have : (tkm m).inv = false := h1.2.2.2 rfl
          rw [this]
          rfl
        | g r =>
          rw [Pt.betw_g, if_neg (by have := h1.1; simpa using this), h1.2.2.1]
          rfl
      have hl : ∀ c R, L = c :: R → signed (tkm m).l c = none := by
        intro c R e
        have h1 := hstep [] c R e
        have h2 := hends
        unfold endsB at h2
        rw [e] at h2
        have hhd : leftB m c = false := by
          cases hg : (c :: R).getLast? with
          | none => simp at hg
          | some b =>
            rw [hg] at h2
            simp only [List.head?_cons, Bool.and_eq_true, Bool.not_eq_true'] at h2
            exact h2.1
        cases c with
        | b x => rfl
        | g r =>
          have hlr : (tkm m).l r = false := hhd
          rw [Pt.signed_g, hlr]
          unfold stepB at h1
          dsimp only at h1
          cases hs : sof r with
          | none => rfl
          | some a =>
            rw [hs] at h1
            simp only [List.length_nil, Nat.add_zero, decide_true, Bool.true_and, Bool.and_eq_true, Bool.not_eq_true'] at h1
            dsimp only
            rw [h1.2.1.2]
            rfl
      have hr : ∀ M c, L = M ++ [c] → signed (tkm m).r c = none := by
        intro M c e
        have h1 := hstep M c [] e
        have h2 := hends
        unfold endsB at h2
        rw [e] at h2
        have hln : 0 + M.length + 1 = L.length := by rw [e]; simp
        have hhd : rightB m c = false := by
          rw [List.getLast?_concat] at h2
          cases hg : (M ++ [c]).head? with
          | none => cases M <;> simp at hg
          | some b =>
            rw [hg] at h2
            simp only [Bool.and_eq_true, Bool.not_eq_true'] at h2
            exact h2.2
        cases c with
        | b x => rfl
        | g r =>
          have hlr : (tkm m).r r = false := hhd
          rw [Pt.signed_g, hlr]
          unfold stepB at h1
          dsimp only at h1
          cases hs : sof r with
          | none => rfl
          | some a =>
            rw [hs] at h1
            simp only [hln, decide_true, Bool.true_and, Bool.and_eq_true, Bool.not_eq_true'] at h1
            dsimp only
            rw [h1.2.2]
            rfl
      have := stays_plain hd hu hb (fun c hc => ⟨(hq c hc).1, (hq c hc).2.1⟩) hl hr
      rw [this.1, this.2, hfl, strB_tl]
      exact ⟨rfl, rfl⟩
theorem nothing21 (m : Int) (s : ByteArray) (w : World) (hs : s.size ≤ 1000000000000) : Calls Tryd.prog 21 #[.int .u64 m, .string s] w fun e w' => e = .returned (.bool (nothingB m s)) ∧ Below w.heap.size w w' :=
  laws_encNothing.calls _ m s (nothingB m s) w (nothing_f m s hs)
set_option maxHeartbeats 4000000 in
set_option maxRecDepth 100000 in
theorem law8 (m : Int) (s : ByteArray) (w : World) (hW : Wo w) : Calls Tryd.prog 8 #[.int .u64 m, .string s] w fun e w' => e = .returned (.bool true) ∧ Below w.heap.size w w' := by
  by_cases hs : s.size ≤ 2147483647
  · have hs1 : ((s.size : Int) > 2147483647) = False := by simp; omega
    have c16 := fun w => short_cell s w hs
    obtain ⟨b, hb⟩ : ∃ b, decide ((s.size : Int) ≤ 65536) = b := ⟨_, rfl⟩
    rw [hb] at c16
    cases b with
    | false =>
      clear hb hs
      go_enter Tryd.func8, Tryd.ntmps8
      go_wp2_with (go_at_call 16; refine (c16 _).mono ?_; rintro e w1 ⟨rfl, h1⟩)
      go_ret
      exact ⟨rfl, h1⟩
    | true =>
      have hsz : (s.size : Int) ≤ 65536 := of_decide_eq_true hb
      have c21 := fun W => nothing21 m s W (by omega)
      have c15 := fun W (h : Wo W) => enc15 m s W (by omega) h.tabs
      have c20 := fun W (h : Wo W) => dec20 m s W (by omega) h.tabs h.err
      have x15 := fun W (h : Wo W) => enc15 2048 ⟨#[97]⟩ W (by decide) h.tabs
      rw [enc_letter 2048 97 (by decide) (by decide)] at x15
      cases ho : nothingB m s with
      | false =>
        rw [ho] at c21
        clear hb hs hsz c15 c20 x15 ho
        go_enter Tryd.func8, Tryd.ntmps8
        go_wp2_with (first | (go_at_call 16; refine (c16 _).mono ?_; rintro e w1 ⟨rfl, h1⟩) | (go_at_call 21; refine (c21 _).mono ?_; rintro e w2 ⟨rfl, h2⟩))
        go_ret
        exact ⟨rfl, h1.trans (h2.mono h1.size)⟩
      | true =>
        rw [ho] at c21
        rw [(stays_is ho).1] at c15
        rw [(stays_is ho).2] at c20
        clear hb hs hsz ho
        go_enter Tryd.func8, Tryd.ntmps8
        go_wp2_with (first | (go_at_call 16; refine (c16 _).mono ?_; rintro e w1 ⟨rfl, h1⟩; have g1 := hW.below h1) | (go_at_call 21; refine (c21 _).mono ?_; rintro e w2 ⟨rfl, h2⟩; have g2 := g1.below h2) | (go_at_call 15; refine (c15 _ g2).mono ?_; rintro e w3 ⟨rfl, h3⟩; have g3 := g2.below h3; clear c15) | (go_at_call 20; refine (c20 _ g3).mono ?_; rintro e w4 ⟨rfl, h4⟩; have g4 := g3.below h4) | (go_at_call 15; refine (x15 _ g4).mono ?_; rintro e w5 ⟨rfl, h5⟩))
        go_ret
        have k2 := h1.trans (h2.mono h1.size)
        have k3 := k2.trans (h3.mono k2.size)
        have k4 := k3.trans (h4.mono k3.size)
        exact ⟨rfl, k4.trans (h5.mono k4.size)⟩
  · have hs1 : ((s.size : Int) > 2147483647) = True := by simp; omega
    go_enter Tryd.func8, Tryd.ntmps8
    go_wp2
    go_ret
    exact ⟨rfl, Below.refl _ w⟩
end Go.Proofs.YtonmnpmklkbioaaDoor.Given
/- The condition that the two tables of unicode/utf8 read as the program's text lays them gives what Encode's walk asks. -/
namespace Go.Proofs.YtonmnpmklkbioaaDoor.Given
open Go.RowKit
set_option linter.unusedVariables false
theorem xU : Go.Proofs.U8Extra Tryd.prog Laid.L_n197_ren := ⟨by kernel_rfl, by kernel_rfl, by kernel_rfl, by kernel_rfl, by kernel_rfl, by kernel_rfl, by kernel_rfl⟩
theorem accept_is : (Rows.laid_unicode_utf8_acceptRanges : DataW Unit) = Lib.acceptData := by kernel_rfl
theorem first_is : Rows.laid_unicode_utf8_first = Lib.firstData := Pinned.utf8First_eq
theorem tabs_of {W : World} {l : List (String × DataW Unit)} (h : laidMet Tryd.prog l W) (h1 : ("unicode/utf8.first", Rows.laid_unicode_utf8_first) ∈ l) (h2 : ("unicode/utf8.acceptRanges", (Rows.laid_unicode_utf8_acceptRanges : DataW Unit)) ∈ l) : Tabs W :=
  Go.Proofs.utf8Tabs_of_reads { Laid.L_n197 with } xU (by rw [← first_is]; exact Lib.laidMet.reads h h1) (by rw [← accept_is]; exact Lib.laidMet.reads h h2)
end Go.Proofs.YtonmnpmklkbioaaDoor.Given
/- The condition of the rows gives what the laws' walks ask: the two tables, and an error in strconv.ErrSyntax. -/
namespace Go.Proofs.YtonmnpmklkbioaaDoor.Given
open Go.RowKit
set_option linter.unusedVariables false
theorem err_of {W : World} {l : List (String × DataW Unit)} (h : laidMet Tryd.prog l W) (h1 : ("strconv.ErrSyntax", (Rows.laid_strconv_ErrSyntax : DataW Unit)) ∈ l) : Sy.ErrOk W := by
  obtain ⟨g0, t0, cs0, f0, p0, hg0, ht0, hv0, hd0⟩ := Lib.laidMet.reads h h1
  obtain rfl : g0 = 3 := (Option.some.inj (hg0.symm.trans (by kernel_rfl)))
  obtain rfl : t0 = 74 := (Option.some.inj (ht0.symm.trans (by kernel_rfl)))
  obtain ⟨l0⟩ := cs0
  obtain ⟨f1, u, v, hl, hn, _⟩ := iface_of_trod Tryd.underlying74 hd0
  refine ⟨.iface u v, ?_, .inr ⟨u, v, rfl⟩⟩
  have hl' : l0 = [.iface u v] := hl
  subst hl'
  simpa using World.var?_cell hg0 hv0 0
theorem wo_of {W : World} {l : List (String × DataW Unit)} (h : laidMet Tryd.prog l W) (h1 : ("unicode/utf8.first", Rows.laid_unicode_utf8_first) ∈ l) (h2 : ("unicode/utf8.acceptRanges", (Rows.laid_unicode_utf8_acceptRanges : DataW Unit)) ∈ l) (h3 : ("strconv.ErrSyntax", (Rows.laid_strconv_ErrSyntax : DataW Unit)) ∈ l) : Wo W :=
  ⟨tabs_of h h1 h2, err_of h h3⟩
end Go.Proofs.YtonmnpmklkbioaaDoor.Given
