/- The walk of laws.FnNameEncode. -/
import Derived.Test.YtonmnpmklkbioaaDoorGg
namespace Go.Proofs.YtonmnpmklkbioaaDoor.Given
open Go.RowKit Go.Proofs.YtonmnpmklkbioaaDoorW.PrintWords Go.Proofs.YtonmnpmklkbioaaDoorW.PrintLast Go.Proofs.YtonmnpmklkbioaaDoorW.PrintMore Go.Proofs.YtonmnpmklkbioaaDoor.PN
open Go.Proofs.YtonmnpmklkbioaaDoor.Pt (Ch Tk flat chars chs isBad sgn sof signed betw leftC rightC encC dotC hexc isC run Pr hd qt)
open Go.Proofs.YtonmnpmklkbioaaDoor.Sy (tl strB tl_size strB_tl tl_strB tkm tkm_ok hasB encO enc_is)
set_option linter.unusedVariables false
set_option linter.unusedSimpArgs false

/-- The library's two tables are there. -/
def Tabs (w : World) : Prop := Lib.Utf8Tabs (Laid.L_n197_ren.g 3) (Laid.L_n197_ren.g 4) w
theorem Tabs.below {w w' : World} (h : Tabs w) (hb : Below w.heap.size w w') : Tabs w' :=
  ⟨fun c hc => (hb.cell (World.block_lt_of_cell? w _ (h.1 c hc))).trans (h.1 c hc), fun i hi => ⟨(hb.cell (World.block_lt_of_cell? w _ (h.2 i hi).1)).trans (h.2 i hi).1, (hb.cell (World.block_lt_of_cell? w _ (h.2 i hi).2)).trans (h.2 i hi).2⟩⟩
theorem encO_one (s : ByteArray) : encO 1 s = s := by
  unfold encO Sy.frontO
  rfl
theorem encO_is (m : Int) (s : ByteArray) : encO m s = encN m s := by
  unfold encN
  by_cases h : m = 1
  · rw [if_pos h, h, encO_one]
  · rw [if_neg h, ← enc_is m s h, strB_tl]
set_option maxHeartbeats 1000000 in
/-- impl.NameEncode. -/
theorem enc15 (m : Int) (s : ByteArray) (w : World) (hs : s.size ≤ 17592186044) (hT : Tabs w) :
    Calls Tryd.prog 15 #[.int .u64 m, .string s] w fun e w' => e = .returned (.string (encN m s)) ∧ Below w.heap.size w w' := by
  have c := Sy.calls35 m s w hs hT
  rw [encO_is] at c
  obtain ⟨t, ht⟩ : ∃ t, encN m s = t := ⟨_, rfl⟩
  rw [ht] at c ⊢
  clear ht
  go_enter Tryd.func15, Tryd.ntmps15
  go_wp2_with (go_at_call 35; refine c.mono ?_; rintro e w1 ⟨rfl, hb⟩)
  go_ret
  exact ⟨rfl, hb⟩
set_option maxRecDepth 100000 in
theorem slash_is : encN 2 ⟨#[47]⟩ = ⟨#[239, 188, 143]⟩ := by decide +kernel
theorem short_one (s : ByteArray) (hs : s.size ≤ 2147483647) : laws_encShort.f 3 [s] = some (decide ((s.size : Int) ≤ 65536)) := by
  have h1 : wrap64 (0 + (s.size : Int)) = (s.size : Int) := by unfold wrap64; omega
  have h2 : wrap64 ((0 : Int) + 1) = 1 := by unfold wrap64; rfl
  have h3 : rdOf ByteArray.empty [s] 0 = s := rfl
  unfold laws_encShort.f
  simp only [laws_encShort.l0, List.length_cons, List.length_nil, h3, h1, h2]
  rw [if_pos (by decide), if_pos (by decide), if_pos (by decide), if_neg (by decide)]
set_option maxHeartbeats 2000000 in
set_option maxRecDepth 100000 in
theorem law4 (m : Int) (s : ByteArray) (w : World) (hT : Tabs w) : Calls Tryd.prog 4 #[.int .u64 m, .string s] w fun e w' => e = .returned (.bool true) ∧ Below w.heap.size w w' := by
  by_cases hs : s.size ≤ 2147483647
  · have hs1 : ((s.size : Int) > 2147483647) = False := by simp; omega
    have hbw : ∀ os, Below w.heap.size w (w.alloc os) := fun os => (Below.refl _ w).alloc (Nat.le_refl _) _
    have hrow : Kd.C Kd.string (w.alloc (.cells #[.string s] 9)) (some ⟨w.heap.size, 0, none⟩) [s].length [s] := by
      refine ⟨rfl, by simp, fun _ => ⟨_, rfl, fun j p hj => ?_⟩⟩
      match j, hj with
      | 0, hj =>
        cases hj
        exact ⟨[.string s], rfl, rfl, fun i u hu => by
          match i, hu with
          | 0, hu => cases hu; simp [Addr.add]⟩
    have hsh := short_one s hs
    obtain ⟨b, hb⟩ : ∃ b, decide ((s.size : Int) ≤ 65536) = b := ⟨_, rfl⟩
    rw [hb] at hsh
    have c16 := laws_encShort.calls 3 (some ⟨w.heap.size, 0, none⟩) 1 [s] b _ hrow (Nat.le_refl 1) hsh
    have hT1 : ∀ os n, Tabs ((w.alloc os).drewN n) := fun os n => hT.below (below_drewN' (hbw os) n)
    cases b with
    | false =>
      clear hsh hrow hb hs
      go_enter Tryd.func4, Tryd.ntmps4
      go_wp2_with (go_at_call 16; refine c16.mono ?_; rintro e w1 ⟨rfl, ⟨n, rfl⟩⟩)
      go_ret
      exact ⟨rfl, below_drewN' (hbw _) _⟩
    | true =>
      have hsz : (s.size : Int) ≤ 65536 := of_decide_eq_true hb
      have c15 := fun W h => enc15 m s W (by omega) h
      have c17 := fun W => enc17 m s W (by omega)
      have c2 := fun W h => enc15 2 ⟨#[47]⟩ W (by decide) h
      rw [slash_is] at c2
      obtain ⟨t, ht⟩ : ∃ t, encN m s = t := ⟨_, rfl⟩
      rw [ht] at c15 c17
      clear hsh hrow hb hs ht hsz
      go_enter Tryd.func4, Tryd.ntmps4
      go_wp2_with (first | (go_at_call 16; refine c16.mono ?_; rintro e w1 ⟨rfl, ⟨n, rfl⟩⟩) | (go_at_call 15; refine (c15 _ (hT1 _ _)).mono ?_; rintro e w2 ⟨rfl, hb2⟩; have hT2 := (hT1 _ _).below hb2) | (go_at_call 17; refine (c17 _).mono ?_; rintro e w3 ⟨rfl, hb3⟩; have hT3 := hT2.below hb3) | (go_at_call 15; refine (c2 _ hT3).mono ?_; rintro e w4 ⟨rfl, hb4⟩))
      go_ret
      refine ⟨rfl, ?_⟩
      have hb1 := below_drewN' (hbw (.cells #[.string s] 9)) n
      exact ((hb1.trans (hb2.mono hb1.size)).trans (hb3.mono (Nat.le_trans hb1.size hb2.size))).trans (hb4.mono (Nat.le_trans (Nat.le_trans hb1.size hb2.size) hb3.size))
  · have hs1 : ((s.size : Int) > 2147483647) = True := by simp; omega
    go_enter Tryd.func4, Tryd.ntmps4
    go_wp2
    go_ret
    exact ⟨rfl, Below.refl _ w⟩
end Go.Proofs.YtonmnpmklkbioaaDoor.Given
