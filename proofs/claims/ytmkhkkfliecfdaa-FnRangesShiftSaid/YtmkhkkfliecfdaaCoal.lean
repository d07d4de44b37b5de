/- The contract of Ranges.coalesce: a set whose variable holds a row of ranges near enough is coalesced at a place. -/
import Derived.StillTailTactics
import Derived.Deep.CutBlock
import Derived.RangeFuncBox
import Derived.Test.YtmkhkkfliecfdaaRow
namespace Go.Proofs.Ytmkhkkfliecfdaa.Given
open Go.RowKit
set_option linter.unusedVariables false
set_option linter.unusedSimpArgs false

theorem i64_id {n : Int} (h : -9223372036854775808 ≤ n ∧ n ≤ 9223372036854775807) : IntKind.i64.wrap n = n := by rw [IntKind.wrap_i64]; omega
/-- The set's variable and its row. -/
def St (B p g cap : Nat) (w0 w : World) (L : List (Int × Int)) : Prop :=
  w.heap[p]? = some (.cells #[.slice (some ⟨g, 0, none⟩) L.length cap] 51 (0, 0)) ∧ Row w B (.slice (some ⟨g, 0, none⟩) L.length cap) L ∧ Below B w0 w
variable {B p g cap : Nat} {w0 w w' : World} {L : List (Int × Int)}
theorem St.step (h : St B p g cap w0 w L) (hb : Below w.heap.size w w') : St B p g cap w0 w' L :=
  ⟨by rw [hb.block p (Array.getElem?_eq_some_iff.1 h.1).1]; exact h.1, h.2.1.below hb, h.2.2.trans (hb.mono (Nat.le_trans (Row.lt h.2.1).1 (Nat.le_of_lt (Row.lt h.2.1).2)))⟩
theorem St.drew (h : St B p g cap w0 w L) : St B p g cap w0 w.drew L := ⟨h.1, h.2.1, h.2.2.drew⟩
theorem St.drewN (h : St B p g cap w0 w L) (n : Nat) : St B p g cap w0 (w.drewN n) L := ⟨h.1, h.2.1, ⟨h.2.2.os, h.2.2.tape, h.2.2.output, h.2.2.size, h.2.2.block⟩⟩
theorem St.set (h : St B p g cap w0 w L) (hne : p ≠ g) (i : Nat) (r : Int × Int) : St B p g cap w0 ((w.setCell ⟨g, i * 2 + 1, none⟩ (.int .i64 r.2)).setCell ⟨g, i * 2, none⟩ (.int .i64 r.1)) (L.set i r) := by
  refine ⟨?_, h.2.1.set i r, ((h.2.2.setCell (Row.lt h.2.1).1 _).setCell (Row.lt h.2.1).1 _)⟩
  rw [Below.heap_setCell _ _ _ _ (by simpa using hne), Below.heap_setCell _ _ _ _ (by simpa using hne), List.length_set]
  exact h.1
theorem Row.room (h : Row w B (.slice (some ⟨g, 0, none⟩) L.length cap) L) : L.length ≤ cap := by
  rcases h.2 with ⟨h', _⟩ | ⟨g', cap', cur, h', hb, hg, hnc, _⟩
  · simp at h'
  · simp only [Value.slice.injEq, Option.some.injEq, Addr.mk.injEq, and_true, true_and] at h'
    obtain ⟨rfl, rfl⟩ := h'
    exact hnc
theorem Row.far {v : Value} (h : Row w B v L) (p : Nat) (u : Value) (hne : v.ownBlock ≠ some p) : Row (w.setCell ⟨p, 0, none⟩ u) B v L :=
  World.ownsRow.kept h (row := some p) (grownBy_setCell' w p u) (.inr hne)
theorem St.over (h : St B p g cap w0 w L) (hne : p ≠ g) (i : Nat) (M : List (Int × Int)) (hi : i + M.length ≤ L.length) :
    ∃ cur, w.heap[g]? = some (.cells cur 48 (0, 0)) ∧ L.length * 2 ≤ cur.size ∧
      St B p g cap w0 (w.setRow g (cur.toList.take (i * 2) ++ flat M ++ cur.toList.drop (i * 2 + (flat M).length)).toArray) (L.take i ++ M ++ L.drop (i + M.length)) := by
  obtain ⟨cur, h1, h2, h3⟩ := h.2.1.over i M hi
  have e : (L.take i ++ M ++ L.drop (i + M.length)).length = L.length := by simp; omega
  refine ⟨cur, h1, h2, ?_, by rw [e]; exact h3, below_setRow h.2.2 (Row.lt h.2.1).1 _⟩
  rw [setRow_other _ _ _ _ hne, e]
  exact h.1
theorem St.cut (h : St B p g cap w0 w L) (hne : p ≠ g) (hB : B ≤ p) (m : Nat) (hm : m ≤ L.length) :
    St B p g cap w0 (w.setCell ⟨p, 0, none⟩ (.slice (some ⟨g, 0, none⟩) m cap)) (L.take m) := by
  have e : (L.take m).length = m := by rw [List.length_take]; omega
  have h1 := h.2.1.short m hm
  refine ⟨?_, h1.far p _ (by simp [Value.ownBlock]; exact fun e => hne e.symm), h.2.2.setCell hB _⟩
  rw [e]
  have := h.1
  simp [World.setCell, Array.getElem?_modify, this]
theorem St.cells (h : St B p g cap w0 w L) {i : Nat} (hi : i < L.length) : w.cell? ⟨g, i * 2, none⟩ = some (.int .i64 (at_ L i).1) ∧ w.cell? ⟨g, i * 2 + 1, none⟩ = some (.int .i64 (at_ L i).2) ∧ w.frozen? ⟨g, i * 2, none⟩ = false ∧ w.frozen? ⟨g, i * 2 + 1, none⟩ = false := by
  rw [at_eq hi]
  exact ⟨h.2.1.fst hi, h.2.1.snd hi, h.2.1.frz _, h.2.1.frz _⟩
theorem merge_two (i cap B p g : Nat) (L : List (Int × Int)) (w0 w : World) (h : St B p g cap w0 w L) (hne : p ≠ g) (hi : i + 1 < L.length) (hG : ∀ r ∈ L, Good r) :
    Calls Try.prog 52 #[.pointer (some ⟨g, i * 2, none⟩), .pointer (some ⟨g, (i + 1) * 2, none⟩)] w fun e w' =>
      e = .returned (.bool (touches (at_ L i) (at_ L (i + 1)))) ∧ St B p g cap w0 w' (if touches (at_ L i) (at_ L (i + 1)) then joinAt L i else L) := by
  obtain ⟨c1, c2, -, -⟩ := h.cells (i := i) (by omega)
  obtain ⟨d1, d2, d3, d4⟩ := h.cells hi
  have g1 : Good (at_ L i) := by rw [at_eq (by omega)]; exact hG _ (List.getElem_mem _)
  have g2 : Good (at_ L (i + 1)) := by rw [at_eq hi]; exact hG _ (List.getElem_mem _)
  have hlt := (Row.lt h.2.1).2
  cases ht : touches (at_ L i) (at_ L (i + 1)) with
  | false =>
    refine (merge_false g (i * 2) g ((i + 1) * 2) (at_ L i).1 (at_ L i).2 (at_ L (i + 1)).1 (at_ L (i + 1)).2 w g1.near g2.near c1 c2 d1 d2 hlt hlt (by simpa [touches] using ht)).mono ?_
    rintro e w' ⟨rfl, hb⟩
    exact ⟨rfl, by simpa using h.step hb⟩
  | true =>
    refine (merge_true g (i * 2) g ((i + 1) * 2) (at_ L i).1 (at_ L i).2 (at_ L (i + 1)).1 (at_ L (i + 1)).2 w g1.near g2.near c1 c2 d1 d2 hlt hlt d3 d4 (by simpa [touches] using ht) (.inr (.inl (by omega)))).mono ?_
    rintro e w' ⟨rfl, w1, hb, rfl⟩
    exact ⟨rfl, by rw [if_pos rfl]; exact (h.step hb).set hne (i + 1) (merged (at_ L i) (at_ L (i + 1)))⟩


set_option maxRecDepth 100000 in
set_option maxHeartbeats 1000000 in
theorem coal_any (p g cap B : Nat) (i : Int) (k : Nat) (hik : i = k) (L : List (Int × Int)) (w0 w : World) (h : St B p g cap w0 w L) (hi : k < L.length) (hG : ∀ r ∈ L, Good r) (hB : B ≤ p) (hne : p ≠ g) (hlen : L.length ≤ 100000) :
    Calls Try.prog 53 #[.pointer (some ⟨p, 0, none⟩), .int .i64 i] w (fun e w' => e = .returned (.tuple #[]) ∧ St B p g cap w0 w' (coalP L k)) := by
  have HK := Lib.hid hik
  have hi0 : 0 ≤ i := by omega
  have hi1 : i < L.length := by omega
  clear hik
  have hpc : w.cell? ⟨p, 0, none⟩ = some (.slice (some ⟨g, 0, none⟩) L.length cap) := by simp [World.cell?, h.1]
  have HS := Lib.hid h
  have HGd := Lib.hid hG
  clear h hG
  go_enter Try.func53, Try.ntmps53
  go_wp2_with fail
  go_cut [24] (fun v24 wc => ∃ b : Bool, v24 = .bool b ∧ Hid (b = decide (0 < k ∧ touches (at_ L (k - 1)) (at_ L k) = true)) ∧ Hid (St B p g cap w0 wc (if b then joinAt L (k - 1) else L)))
  case first =>
    by_cases h0 : 0 < i
    · have hd : decide ((0 : Int) < i) = true := decide_eq_true h0
      obtain ⟨m, hm⟩ : ∃ m, k = m + 1 := ⟨k - 1, by have := HK.out; omega⟩
      obtain ⟨q, hq⟩ : ∃ q : Int, q = m := ⟨_, rfl⟩
      have hw : IntKind.i64.wrap (i - 1) = q := by rw [i64_id (by omega)]; have := HK.out; omega
      have b1 : q < L.length := by omega
      have b0 : 0 ≤ q := by omega
      have t1 : q.toNat = m := by omega
      have t0 : i.toNat = m + 1 := by have := HK.out; omega
      have HM := Lib.hid hm
      have H0 := Lib.hid h0
      have HQ := Lib.hid hq
      clear hm h0 hq
      go_still_tail 10, (by kernel_rfl)
      change wpList _ _ _ _ _ w.drew
      have HS2 := Lib.hid HS.out.drew
      clear HS hpc
      generalize w.drew = w2 at *
      go_wp2_with (go_at_call 52; refine (merge_two m cap B p g L w0 _ HS2.out hne (by have := HM.out; omega) HGd.out).mono ?_; rintro e w3 ⟨rfl, hs3⟩; have HS3 := Lib.hid hs3; clear hs3)
      go_simp
      go_meet
      exact ⟨_, rfl, Lib.hid (by rw [HM.out, Nat.add_sub_cancel]; cases touches (at_ L m) (at_ L (m + 1)) <;> simp), Lib.hid (by rw [HM.out, Nat.add_sub_cancel]; exact HS3.out)⟩
    · have hd : decide ((0 : Int) < i) = false := decide_eq_false h0
      have H0 := Lib.hid h0
      clear h0
      go_quiet (fail)
      go_wp2_with fail
      go_simp
      go_meet
      exact ⟨false, rfl, Lib.hid (by have := H0.out; have := HK.out; simp; omega), Lib.hid (HS.out.drewN _)⟩
  case rest =>
    obtain ⟨b, rfl, hb, hst⟩ := hcut
    clear HS hpc
    obtain ⟨L1, hL1⟩ : ∃ L1, L1 = (if b then joinAt L (k - 1) else L) := ⟨_, rfl⟩
    rw [← hL1] at hst
    have hl1 : L1.length = L.length := by rw [hL1]; split <;> simp [joinAt_length]
    have hg1 : ∀ r ∈ L1, Good r := by
      rw [hL1]
      split
      · rename_i hbt
        have h2 := hb.out
        rw [hbt] at h2
        have h3 := of_decide_eq_true h2.symm
        exact joinAt_good (by omega) HGd.out
      · exact HGd.out
    have HL1 := Lib.hid hL1
    have Hl1 := Lib.hid hl1
    have Hg1 := Lib.hid hg1
    clear hL1 hl1 hg1
    go_upto_if 24 with (fail)
    go_cut [6] (fun v6 wd => ∃ sc : Int, v6 = .int .i64 sc ∧ Hid (sc = if b then (k : Int) - 1 else k) ∧ Hid (St B p g cap w0 wd L1))
    case first =>
      cases b with
      | true =>
        have h2 := of_decide_eq_true hb.out.symm
        have hw : IntKind.i64.wrap (i - 1) = i - 1 := i64_id (by have := HK.out; omega)
        go_wp2_with fail
        go_simp
        go_meet
        exact ⟨i - 1, rfl, Lib.hid (by rw [HK.out]; rfl), hst⟩
      | false =>
        go_wp2_with fail
        go_simp
        go_meet
        exact ⟨i, rfl, Lib.hid (by rw [HK.out]; rfl), hst⟩
    case rest =>
      obtain ⟨sc, rfl, hsc, hst⟩ := hcut
      obtain ⟨M, hM⟩ : ∃ M, M = L.length - 1 - k := ⟨_, rfl⟩
      have HMM := Lib.hid hM
      clear hM
      go_upto_block 0 with fail
      go_cut [5, 7] (fun v5 v7 wd => ∃ (e : Nat) (ei : Int) (L2 : List (Int × Int)), v7 = .int .i64 ei ∧ Hid (ei = e) ∧ Hid (chain M L1 k = (L2, e)) ∧ Hid (k ≤ e ∧ e < L.length) ∧ Hid (L2.length = L.length) ∧ Hid (St B p g cap w0 wd L2))
      case first =>
        go_wp2_with fail
        go_loopg [5, 7] M (fun m v5 v7 wr => ∃ (j : Nat) (ji : Int) (Lj : List (Int × Int)), v5 = .int .i64 ji ∧ v7 = .int .i64 ji ∧ Hid (ji = j) ∧ Hid (m + j + 1 = L.length) ∧ Hid (k ≤ j) ∧ Hid (chain M L1 k = chain m Lj j) ∧ Hid (Lj.length = L.length) ∧ Hid (∀ r ∈ Lj, Good r) ∧ Hid (St B p g cap w0 wr Lj))
        case atStart =>
          exact ⟨k, i, L1, rfl, rfl, HK, Lib.hid (by rw [HMM.out]; omega), Lib.hid (Nat.le_refl _), Lib.hid rfl, Hl1, Hg1, hst⟩
        case round =>
          obtain ⟨j, ji, Lj, rfl, rfl, hji, hmj, hkj, hch, hlj, hgj, hsj⟩ := hrel
          cases gk with
          | zero =>
            have hlast : decide (ji < (L.length : Int) - 1) = false := decide_eq_false (by have := hji.out; have := hmj.out; omega)
            have hwl : IntKind.i64.wrap ((L.length : Int) - 1) = (L.length : Int) - 1 := i64_id (by omega)
            go_wp2_with fail
            go_meet
            exact ⟨j, ji, Lj, rfl, hji, Lib.hid hch.out, Lib.hid ⟨hkj.out, by have := hmj.out; omega⟩, hlj, hsj⟩
          | succ m =>
            have hlast : decide (ji < (L.length : Int) - 1) = true := decide_eq_true (by have := hji.out; have := hmj.out; omega)
            have hwl : IntKind.i64.wrap ((L.length : Int) - 1) = (L.length : Int) - 1 := i64_id (by omega)
            obtain ⟨q, hq⟩ : ∃ q : Int, q = ji + 1 := ⟨_, rfl⟩
            have hwq : IntKind.i64.wrap (ji + 1) = q := by rw [i64_id (by have := hji.out; have := hmj.out; omega), hq]
            have j0 : 0 ≤ ji := by have := hji.out; omega
            have j1 : ji < L.length := by have := hji.out; have := hmj.out; omega
            have q0 : 0 ≤ q := by omega
            have q1 : q < L.length := by have := hji.out; have := hmj.out; omega
            have t0 : ji.toNat = j := by have := hji.out; omega
            have t1 : q.toNat = j + 1 := by have := hji.out; omega
            have HQ := Lib.hid hq
            clear hq
            go_wp2_with fail
            go_still_tail 7, (by kernel_rfl)
            change wpList _ _ _ _ _ wr.drew
            have HS2 := Lib.hid hsj.out.drew
            clear hsj
            generalize wr.drew = w2 at *
            have hcall := merge_two j cap B p g Lj w0 w2 HS2.out hne (by have := hlj.out; have := hmj.out; omega) hgj.out
            have HC := Lib.hid hcall
            clear hcall
            cases ht : touches (at_ Lj j) (at_ Lj (j + 1)) with
            | false =>
              have HT := Lib.hid ht
              clear ht
              go_wp2_with (go_at_call 52; refine HC.out.mono ?_; rw [HT.out]; rintro e w3 ⟨rfl, hs3⟩; rw [if_neg (by decide)] at hs3; have HS3 := Lib.hid hs3; clear hs3)
              go_meet
              exact ⟨j, ji, Lj, rfl, hji, Lib.hid (by rw [hch.out]; simp only [chain]; rw [HT.out]; rfl), Lib.hid ⟨hkj.out, by have := hmj.out; omega⟩, hlj, HS3⟩
            | true =>
              have HT := Lib.hid ht
              clear ht
              go_wp2_with (go_at_call 52; refine HC.out.mono ?_; rw [HT.out]; rintro e w3 ⟨rfl, hs3⟩; rw [if_pos rfl] at hs3; have HS3 := Lib.hid hs3; clear hs3)
              go_roundg m
              case measure => omega
              case rel =>
                exact ⟨j + 1, q, joinAt Lj j, by simp, by simp, Lib.hid (by rw [HQ.out, hji.out]; rfl), Lib.hid (by have := hmj.out; omega), Lib.hid (by have := hkj.out; omega), Lib.hid (by rw [hch.out]; simp only [chain]; rw [HT.out]; rfl), Lib.hid (by rw [joinAt_length]; exact hlj.out), Lib.hid (joinAt_good (by have := hlj.out; have := hmj.out; omega) hgj.out), HS3⟩
      case rest =>
        obtain ⟨e, ei, L2, rfl, hei, hch, hke, hl2, hs2⟩ := hcut
        obtain ⟨n, hn⟩ : ∃ n : Nat, n = if b then k - 1 else k := ⟨_, rfl⟩
        have hscn : sc = n := by
          rw [hsc.out, hn]
          cases b with
          | true => have h2 := of_decide_eq_true hb.out.symm; simp only [if_true]; omega
          | false => rfl
        have hne' : n ≤ e := by rw [hn]; have := hke.out; split <;> omega
        have hfin : coalP L k = L2.take n ++ L2.drop e := by
          unfold coalP
          rw [← HMM.out]
          cases b with
          | true =>
            have h2 := of_decide_eq_true hb.out.symm
            have h3 := HL1.out
            simp only [if_true] at h3 hn
            rw [if_pos h2]
            simp only
            rw [← h3, hch.out, hn]
          | false =>
            have h2 := of_decide_eq_false hb.out.symm
            have h3 := HL1.out
            simp only [Bool.false_eq_true, if_false] at h3 hn
            rw [if_neg h2]
            simp only
            rw [← h3, hch.out, hn]
        have HF := Lib.hid hfin
        have HN := Lib.hid hscn
        have HNE := Lib.hid hne'
        clear hn hscn hne' hfin hsc
        by_cases hlt : sc < ei
        · have hld : decide (sc < ei) = true := decide_eq_true hlt
          have s0 : 0 ≤ sc := by have := HN.out; omega
          have s1 : sc ≤ L.length := by have := hei.out; have := hke.out; omega
          have e0 : 0 ≤ ei := by omega
          have e1 : ei ≤ L.length := by have := hei.out; have := hke.out; omega
          have ts : sc.toNat = n := by have := HN.out; omega
          have te : ei.toNat = e := by have := hei.out; omega
          have HLT := Lib.hid hlt
          clear hlt
          go_wp2_with fail
          go_still_tail 6, (by kernel_rfl)
          change wpList _ _ _ _ _ wc.drew
          have HS3 := Lib.hid hs2.out.drew
          clear hs2
          generalize wc.drew = w2 at *
          have hl2' := hl2.out
          have hcap : L.length ≤ cap := by have := Row.room HS3.out.2.1; omega
          have hnL : n < e := by have := HN.out; have := hei.out; have := HLT.out; omega
          have heL : e < L.length := hke.out.2
          have hcn : ¬ cap = n := by omega
          have hce : ¬ cap = e := by omega
          simp only [if_neg hcn, if_neg hce]
          have hdl : (L2.drop e).length = L.length - e := by rw [List.length_drop, hl2']
          obtain ⟨cur, hg, hsz, hov⟩ := HS3.out.over hne n (L2.drop e) (by rw [hdl, hl2']; omega)
          have hfl : (flat (L2.drop e)).length = (L.length - e) * 2 := by rw [flat_length, hdl]
          refine wpList_copy_two rfl (.tmp 51) (.tmp 54) 51 51 rfl 48 Try.underlying51 (by kernel_rfl) g (n * 2) (L.length - n) (cap - n) ⟨g, e * 2, none⟩ (L.length - e) (cap - e) rfl rfl cur 48 hg (flat (L2.drop e)) ?_ ?_ ?_ (flat_one _) ?_
          · rw [hfl]; congr 1; exact (Nat.min_eq_left (by omega)).symm
          · intro j v hj
            have hjl := (List.getElem?_eq_some_iff.1 hj).1
            rw [hfl] at hjl
            rw [flat_drop, List.getElem?_drop] at hj
            have hc := World.ownsRow.cellAt HS3.out.2.1 (e * 2 + j) (by rw [hl2']; omega)
            rw [show (⟨g, e * 2, none⟩ : Addr).add j = ⟨g, e * 2 + j, none⟩ by unfold Addr.add; split <;> simp_all]; exact hc.trans hj
          · rw [hfl]; omega
          have HOV := Lib.hid hov
          clear hov hg
          generalize w2.setRow g (cur.toList.take (n * 2) ++ flat (L2.drop e) ++ cur.toList.drop (n * 2 + (flat (L2.drop e)).length)).toArray = w3 at *
          obtain ⟨L4, hL4⟩ : ∃ L4, L4 = L2.take n ++ L2.drop e ++ L2.drop (n + (L2.drop e).length) := ⟨_, rfl⟩
          rw [← hL4] at HOV
          have hl4 : L4.length = L.length := by rw [hL4]; simp [hl2']; omega
          have hpc3 : w3.cell? ⟨p, 0, none⟩ = some (.slice (some ⟨g, 0, none⟩) L.length cap) := by rw [← hl4]; simp [World.cell?, HOV.out.1]
          have hpf3 : w3.frozen? ⟨p, 0, none⟩ = false := by simp [World.frozen?, HOV.out.1]
          obtain ⟨q, hq⟩ : ∃ q : Int, q = L.length - ei := ⟨_, rfl⟩
          obtain ⟨r, hr⟩ : ∃ r : Int, r = q + sc := ⟨_, rfl⟩
          have hq0 : 0 ≤ q := by omega
          have hw1 : IntKind.i64.wrap ((L.length : Int) - ei) = q := by rw [i64_id (by omega), hq]
          have hw2 : IntKind.i64.wrap (q + sc) = r := by rw [i64_id (by omega), hr]
          have r0 : 0 ≤ r := by omega
          have r1 : r ≤ cap := by have := HLT.out; omega
          have tr : r.toNat = n + (L.length - e) := by have := HN.out; have := hei.out; omega
          have hml : n + (L.length - e) ≤ L4.length := by rw [hl4]; omega
          have hfin2 : coalP L k = L4.take (n + (L.length - e)) := by
            rw [HF.out, hL4, hdl]
            have e2 : (L2.take n ++ L2.drop e).length = n + (L.length - e) := by simp [hl2']; omega
            rw [← e2, List.take_left']
            rfl
          have HFIN := Lib.hid hfin2
          have HQ := Lib.hid hq
          have HR := Lib.hid hr
          have HCUT := Lib.hid (HOV.out.cut hne hB _ hml)
          clear hfin2 hq hr hL4 hl4 hl2' hdl hfl hsz hcn hce
          go_wp2_with fail
          go_end0
          exact ⟨rfl, by rw [HFIN.out]; exact HCUT.out⟩
        · have hld : decide (sc < ei) = false := decide_eq_false hlt
          have hee : n = e := by have := HN.out; have := hei.out; have := HNE.out; omega
          have HEE := Lib.hid hee
          clear hlt hee
          go_wp2_with fail
          go_end0
          exact ⟨rfl, by rw [HF.out, HEE.out, List.take_append_drop]; exact hs2.out⟩
end Go.Proofs.Ytmkhkkfliecfdaa.Given
