-- Written by a program of this session.
import Derived.Test.YtjabjcgomnjpcaaDoorPMx0
import Derived.Test.YtjabjcgomnjpcaaDoorPMx40
import Derived.Test.YtjabjcgomnjpcaaDoorPMx41
namespace Go.Proofs.YtjabjcgomnjpcaaDoor.PM
open Go.RowKit Go.Proofs.YtjabjcgomnjpcaaDoorW.PrintWords Go.Proofs.YtjabjcgomnjpcaaDoorW.PrintLast Go.Proofs.YtjabjcgomnjpcaaDoorW.PrintMore
attribute [local go_sem] max2_int min2_int max_two min_two max_three min_three max_four min_four   -- for this text's walks alone
set_option linter.unusedVariables false
set_option linter.unusedSimpArgs false

/-! ### spec_MaskText: function 7 -/
mutual
def spec_MaskText.l0 : Nat → Int → ByteArray → List (S36) → Int → Int → Option (ByteArray)
  | 0, _, _, _, _, _ => none
  | k + 1, x0, x3, x7, x8, x9 => if x9 < x8 then (if 0 ≤ x9 then (if x9 < (x7.length : Int) then (if (Go.bits .and .u64 x0 ((rd_T36 x7 x9).f0)) = 0 then (spec_MaskText.l0 k x0 x3 x7 x8 (wrap64 (x9 + 1))) else (if 1 + ((rd_T36 x7 x9).f1).size ≤ 9223372036854775807 then (if x3.size + ((⟨#[44]⟩ : ByteArray) ++ ((rd_T36 x7 x9).f1)).size ≤ 9223372036854775807 then (spec_MaskText.l0 k (Go.bits .andNot .u64 x0 ((rd_T36 x7 x9).f0)) (x3 ++ ((⟨#[44]⟩ : ByteArray) ++ ((rd_T36 x7 x9).f1))) x7 x8 (wrap64 (x9 + 1))) else (none)) else (none))) else (none)) else (none)) else (spec_MaskText.l1 k x0 x3 1)
def spec_MaskText.l1 : Nat → Int → ByteArray → Int → Option (ByteArray)
  | 0, _, _, _ => none
  | k + 1, x0, x3, x6 => if x0 = 0 then (if x3.toList = ([] : List UInt8) then (some (⟨#[78, 111, 110, 101]⟩ : ByteArray)) else (if 1 ≤ (x3.size : Int) then (some (x3.extract 1 x3.size)) else (none))) else (if (Go.bits .and .u64 x0 x6) = 0 then (spec_MaskText.l1 k x0 x3 (IntKind.u64.wrap (x6 * 2))) else ((spec_hexText.f k x6).bind fun t168 => (if 1 + t168.size ≤ 9223372036854775807 then (if x3.size + ((⟨#[44]⟩ : ByteArray) ++ t168).size ≤ 9223372036854775807 then (spec_MaskText.l1 k (Go.bits .andNot .u64 x0 x6) (x3 ++ ((⟨#[44]⟩ : ByteArray) ++ t168)) (IntKind.u64.wrap (x6 * 2))) else (none)) else (none))))
end
def spec_MaskText.f (k : Nat) (a0 : Int) : Option (ByteArray) := (spec_MaskNames.f).bind fun t163 => (spec_MaskText.l0 k a0 (⟨#[]⟩ : ByteArray) t163 (t163.length : Int) 0)
theorem spec_MaskText.mono_l : ∀ k, (∀ y0 y1 y2 y3 y4, LeO (spec_MaskText.l0 k y0 y1 y2 y3 y4) (spec_MaskText.l0 (k + 1) y0 y1 y2 y3 y4)) ∧ (∀ y0 y1 y2, LeO (spec_MaskText.l1 k y0 y1 y2) (spec_MaskText.l1 (k + 1) y0 y1 y2))
  | 0 => ⟨fun _ _ _ _ _ r h => by simp [spec_MaskText.l0] at h, fun _ _ _ r h => by simp [spec_MaskText.l1] at h⟩
  | k + 1 => by
    obtain ⟨ih0, ih1⟩ := spec_MaskText.mono_l k
    refine ⟨?_, ?_⟩
    · intro y0 y1 y2 y3 y4
      unfold spec_MaskText.l0
      repeat' first
      | (with_reducible exact ih0 _ _ _ _ _)
      | (with_reducible exact ih1 _ _ _)
      | (with_reducible exact spec_hexText.mono _ _)
      | (with_reducible exact LeO.refl _)
      | (with_reducible exact LeO.none _)
      | (with_reducible refine LeO.ite ?_ ?_)
      | (with_reducible refine LeO.bind ?_ (fun _ => ?_))
      | exact ih0 _ _ _ _ _
      | exact ih1 _ _ _
      | exact spec_hexText.mono _ _
      | exact LeO.none _
      | refine LeO.ite ?_ ?_
      | refine LeO.bind ?_ (fun _ => ?_)
    · intro y0 y1 y2
      unfold spec_MaskText.l1
      repeat' first
      | (with_reducible exact ih0 _ _ _ _ _)
      | (with_reducible exact ih1 _ _ _)
      | (with_reducible exact spec_hexText.mono _ _)
      | (with_reducible exact LeO.refl _)
      | (with_reducible exact LeO.none _)
      | (with_reducible refine LeO.ite ?_ ?_)
      | (with_reducible refine LeO.bind ?_ (fun _ => ?_))
      | exact ih0 _ _ _ _ _
      | exact ih1 _ _ _
      | exact spec_hexText.mono _ _
      | exact LeO.none _
      | refine LeO.ite ?_ ?_
      | refine LeO.bind ?_ (fun _ => ?_)
theorem spec_MaskText.mono : ∀ a0 k, LeO (spec_MaskText.f k a0) (spec_MaskText.f (k + 1) a0) := by
  intro a0 k
  obtain ⟨ih0, ih1⟩ := spec_MaskText.mono_l k
  unfold spec_MaskText.f
  repeat' first
      | (with_reducible exact ih0 _ _ _ _ _)
      | (with_reducible exact ih1 _ _ _)
      | (with_reducible exact spec_hexText.mono _ _)
      | (with_reducible exact LeO.refl _)
      | (with_reducible exact LeO.none _)
      | (with_reducible refine LeO.ite ?_ ?_)
      | (with_reducible refine LeO.bind ?_ (fun _ => ?_))
      | exact ih0 _ _ _ _ _
      | exact ih1 _ _ _
      | exact spec_hexText.mono _ _
      | exact LeO.none _
      | refine LeO.ite ?_ ?_
      | refine LeO.bind ?_ (fun _ => ?_)
set_option maxHeartbeats 8000000 in
set_option maxRecDepth 100000 in
theorem spec_MaskText.calls (k : Nat) (a0 : Int) (r : ByteArray) (w : World) (h : spec_MaskText.f k a0 = some r) :
    Calls Tryd.prog 7 #[.int .u64 a0] w fun e w' => e = .returned (.string r) ∧ Below w.heap.size w w' := by
  have hu36 := Tryd.underlying36
  have HB := Aside0.mk (Below.refl w.heap.size w)
  have H : ((spec_MaskNames.f).bind fun t163 => (spec_MaskText.l0 k a0 (⟨#[]⟩ : ByteArray) t163 (t163.length : Int) 0)) = some r := h
  clear h
  replace H := Option.bind_eq_some_iff.mp H
  obtain ⟨t163, A20, H⟩ := H
  replace H : (spec_MaskText.l0 k a0 (⟨#[]⟩ : ByteArray) t163 (t163.length : Int) 0) = some r := H
  have A2 := Aside0.mk A20
  clear A20
  have H' := Aside0.mk H
  clear H
  go_enter Tryd.func7, Tryd.ntmps7
  go_wp2_with (first | ((with_reducible refine gate_callee (f := 12) rfl ?_); refine goesL_ (some 7) rfl rfl Tryd.func12 (by kernel_rfl) rfl #[] rfl (by (try simp only [List.map_toArray, List.map_cons, List.map_nil]); first | done | rfl | (simp only [List.length_drop, List.length_take]; rfl)) ?_; (with_reducible refine (spec_MaskNames.calls  t163 _ A2.out).mono ?_); rintro e w3 ⟨v164, rfl, ho0, hb⟩; refine ⟨_, rfl, ?_⟩; have n0_ := Aside0.mk (Kd.R_lower ho0 (below_size (by repeat (first | (with_reducible first | exact HB.out | apply below_alloc | apply pw_below_drewN | apply below_drew1) | exact HB.out)))); have n1_ := Aside0.mk (below_step (by repeat (first | (with_reducible first | exact HB.out | apply below_alloc | apply pw_below_drewN | apply below_drew1) | exact HB.out)) hb); clear HB; have HO165 := n0_; have HB := n1_; clear n0_ n1_; (try clear hb); (try clear hb2); (try clear hk); (try clear hi); (try clear ho0); obtain ⟨Ao4, co4, eo4⟩ := Kd.R_slice HO165.out; subst eo4))
  go_loopg [0, 3, 9] k (fun kq v0 v3 v9 w' => ∃ (x0_1 : Int) (x3_1 : ByteArray) (x9_1 : Int), v0 = .int .u64 x0_1 ∧ v3 = .string x3_1 ∧ v9 = .int .i64 x9_1 ∧ Aside0 (spec_MaskText.l0 kq x0_1 x3_1 t163 (t163.length : Int) x9_1 = some r) ∧ Aside0 (kq ≤ k) ∧ Aside0 (Kd.R k36 36 w' w.heap.size (fun _ => True) (.slice Ao4 t163.length co4) t163) ∧ Aside0 (Below w.heap.size w w'))
  case atStart => exact ⟨(a0), ((⟨#[]⟩ : ByteArray)), (0), (by first | rfl | (simp; done) | (simp [*]; done)), (by first | rfl | (simp; done) | (simp [*]; done)), (by first | rfl | (simp; done) | (simp [*]; done)), H', ⟨Nat.le_refl _⟩, ⟨by (with_reducible repeat (first | apply Kd.R_alloc | apply Kd.R_drewN | apply Kd.R_drew)); exact HO165.out⟩, ⟨by repeat (first | (with_reducible first | exact HB.out | apply below_alloc | apply pw_below_drewN | apply below_drew1) | exact HB.out)⟩⟩
  case round =>
    clear H'
    try clear c1
    try clear p2
    obtain ⟨x0_1, x3_1, x9_1, rfl, rfl, rfl, HA, HK1, HO_7, HB⟩ := hrel
    cases gk with
    | zero => exact absurd HA.out (by simp [spec_MaskText.l0])
    | succ k1 =>
      have H := HA.out
      clear HA
      simp only [spec_MaskText.l0] at H
      by_cases c5 : x9_1 < (t163.length : Int)
      · rw [if_pos c5] at H
        have c5b0 : decide (x9_1 < (t163.length : Int)) = true := decide_eq_true c5
        clear c5
        by_cases c6 : 0 ≤ x9_1
        · rw [if_pos c6] at H
          have c6b0 : decide (0 ≤ x9_1) = true := decide_eq_true c6
          clear c6
          by_cases c7 : x9_1 < (t163.length : Int)
          · rw [if_pos c7] at H
            have c7b0 : decide (x9_1 < (t163.length : Int)) = true := decide_eq_true c7
            clear c7
            by_cases c8 : (Go.bits .and .u64 x0_1 ((rd_T36 t163 x9_1).f0)) = 0
            · rw [if_pos c8] at H
              have c8b0 : ((Go.bits .and .u64 x0_1 ((rd_T36 t163 x9_1).f0)) == 0) = true := beq_iff_eq.mpr c8
              have c8b1 : ((Go.bits .and .u64 x0_1 ((rd_T36 t163 x9_1).f0)) != 0) = false := bne_eq_false_iff_eq.mpr c8
              clear c8
              have H' := Aside0.mk H
              clear H
              have p166 : 0 ≤ (x9_1 : Int) := of_decide_eq_true (by first | (with_reducible assumption) | assumption)
              have q166 : x9_1 < (t163.length : Int) := of_decide_eq_true (by first | (with_reducible assumption) | assumption)
              obtain ⟨ad166, e166, hx166_0, hx166_1⟩ := at_T36 (Kd.R_reads' HO_7.out).2.2 x9_1 p166 q166
              cases e166
              replace p166 := eq_true p166
              replace q166 := eq_true q166
              go_wp2_with (first | ((with_reducible refine gate_dst (N := 5) rfl ?_); refine box_event ?hg (N := 5) ?hd (cs := #[.int .u64 0, .string (⟨#[]⟩ : ByteArray)]) (t := 36) ?hr ?_; (case hd => rfl); (case hg => rfl); (case hr => first | (go_simp; done) | (go_simp; rfl)); intro gb167 hg w9 hbox hb; have n0_ := Aside0.mk (Kd.R_below (Kd.R_elderB (by (with_reducible repeat (first | apply Kd.R_alloc | apply Kd.R_drewN | apply Kd.R_drew)); exact HO_7.out) gb167 (Nat.le_of_eq hg.symm)) hb); have n1_ := Aside0.mk (below_step (by repeat (first | (with_reducible first | exact HB.out | apply below_alloc | apply pw_below_drewN | apply below_drew1) | exact HB.out)) hb); have n2_ := Aside0.mk (hbox); have n3_ := Aside0.mk ((by rw [hg]; exact (below_size (by repeat (first | (with_reducible first | exact HB.out | apply below_alloc | apply pw_below_drewN | apply below_drew1) | exact HB.out))) : w.heap.size ≤ gb167)); have n4_ := Aside0.mk ((by rw [hg]; exact (below_size (by repeat (first | (with_reducible first | exact HB.out | apply below_alloc | apply pw_below_drewN | apply below_drew1) | exact HB.out))) : w.heap.size ≤ gb167)); clear HO_7; clear HB; have HO_7 := n0_; have HB := n1_; have BK167 := n2_; have GW167 := n3_; have GE167 := n4_; clear n0_ n1_ n2_ n3_ n4_; clear hb hbox hg; have hcz10_0 : w9.cell? ⟨gb167, 0, none⟩ = some (.int .u64 0) := (blk_cell BK167.out 0).trans rfl; have hcz10_1 : w9.cell? ⟨gb167, 1, none⟩ = some (.string (⟨#[]⟩ : ByteArray)) := (blk_cell BK167.out 1).trans rfl; have hfz10_0 := blk_frozen BK167.out 0; have hfz10_1 := blk_frozen BK167.out 1))
              go_roundg k1
              case measure => have := HK1.out; omega
              case rel => exact ⟨(x0_1), (x3_1), (wrap64 (x9_1 + 1)), (by first | rfl | (simp; done) | (simp [*]; done)), (by first | rfl | (simp; done) | (simp [*]; done)), (by first | rfl | (simp; done) | (simp [*]; done)), H', ⟨by have := HK1.out; omega⟩, ⟨by (with_reducible repeat (first | apply Kd.R_alloc | apply Kd.R_drewN | apply Kd.R_drew)); exact Kd.R_mono (Kd.R_far (p := ⟨gb167, 1, none⟩) (Kd.R_far (p := ⟨gb167, 0, none⟩) (Kd.R_mono HO_7.out (fun k_ hk => (⟨hk, hk.2⟩ : _ ∧ k_ ≠ gb167))) (fun _ hk => hk.2) (.int .u64 ((rd_T36 t163 x9_1).f0))) (fun _ hk => hk.2) (.string ((rd_T36 t163 x9_1).f1))) (fun _ hk => trivial)⟩, ⟨by repeat (first | (with_reducible first | exact HB.out | apply below_alloc | apply pw_below_drewN | apply below_drew1 | refine below_set ?_ GE167.out) | exact HB.out)⟩⟩
            · rw [if_neg c8] at H
              have c8b0 : ((Go.bits .and .u64 x0_1 ((rd_T36 t163 x9_1).f0)) == 0) = false := beq_eq_false_iff_ne.mpr c8
              have c8b1 : ((Go.bits .and .u64 x0_1 ((rd_T36 t163 x9_1).f0)) != 0) = true := bne_iff_ne.mpr c8
              by_cases c11 : 1 + ((rd_T36 t163 x9_1).f1).size ≤ 9223372036854775807
              · rw [if_pos c11] at H
                have c11b0 := eq_true c11
                have c11b1 : decide (1 + ((rd_T36 t163 x9_1).f1).size ≤ 9223372036854775807) = true := decide_eq_true c11
                try have c11b2 : (9223372036854775807 < 1 + ((rd_T36 t163 x9_1).f1).size) = False := eq_false (Nat.not_lt.2 c11)
                by_cases c12 : x3_1.size + ((⟨#[44]⟩ : ByteArray) ++ ((rd_T36 t163 x9_1).f1)).size ≤ 9223372036854775807
                · rw [if_pos c12] at H
                  have c12b0 := eq_true c12
                  have c12b1 : decide (x3_1.size + ((⟨#[44]⟩ : ByteArray) ++ ((rd_T36 t163 x9_1).f1)).size ≤ 9223372036854775807) = true := decide_eq_true c12
                  try have c12b2 : (9223372036854775807 < x3_1.size + ((⟨#[44]⟩ : ByteArray) ++ ((rd_T36 t163 x9_1).f1)).size) = False := eq_false (Nat.not_lt.2 c12)
                  have H' := Aside0.mk H
                  clear H
                  have p166 : 0 ≤ (x9_1 : Int) := of_decide_eq_true (by first | (with_reducible assumption) | assumption)
                  have q166 : x9_1 < (t163.length : Int) := of_decide_eq_true (by first | (with_reducible assumption) | assumption)
                  obtain ⟨ad166, e166, hx166_0, hx166_1⟩ := at_T36 (Kd.R_reads' HO_7.out).2.2 x9_1 p166 q166
                  cases e166
                  replace p166 := eq_true p166
                  replace q166 := eq_true q166
                  go_wp2_with (first | ((with_reducible refine gate_dst (N := 5) rfl ?_); refine box_event ?hg (N := 5) ?hd (cs := #[.int .u64 0, .string (⟨#[]⟩ : ByteArray)]) (t := 36) ?hr ?_; (case hd => rfl); (case hg => rfl); (case hr => first | (go_simp; done) | (go_simp; rfl)); intro gb167 hg w13 hbox hb; have n0_ := Aside0.mk (Kd.R_below (Kd.R_elderB (by (with_reducible repeat (first | apply Kd.R_alloc | apply Kd.R_drewN | apply Kd.R_drew)); exact HO_7.out) gb167 (Nat.le_of_eq hg.symm)) hb); have n1_ := Aside0.mk (below_step (by repeat (first | (with_reducible first | exact HB.out | apply below_alloc | apply pw_below_drewN | apply below_drew1) | exact HB.out)) hb); have n2_ := Aside0.mk (hbox); have n3_ := Aside0.mk ((by rw [hg]; exact (below_size (by repeat (first | (with_reducible first | exact HB.out | apply below_alloc | apply pw_below_drewN | apply below_drew1) | exact HB.out))) : w.heap.size ≤ gb167)); have n4_ := Aside0.mk ((by rw [hg]; exact (below_size (by repeat (first | (with_reducible first | exact HB.out | apply below_alloc | apply pw_below_drewN | apply below_drew1) | exact HB.out))) : w.heap.size ≤ gb167)); clear HO_7; clear HB; have HO_7 := n0_; have HB := n1_; have BK167 := n2_; have GW167 := n3_; have GE167 := n4_; clear n0_ n1_ n2_ n3_ n4_; clear hb hbox hg; have hcz14_0 : w13.cell? ⟨gb167, 0, none⟩ = some (.int .u64 0) := (blk_cell BK167.out 0).trans rfl; have hcz14_1 : w13.cell? ⟨gb167, 1, none⟩ = some (.string (⟨#[]⟩ : ByteArray)) := (blk_cell BK167.out 1).trans rfl; have hfz14_0 := blk_frozen BK167.out 0; have hfz14_1 := blk_frozen BK167.out 1))
                  go_roundg k1
                  case measure => have := HK1.out; omega
                  case rel => exact ⟨(Go.bits .andNot .u64 x0_1 ((rd_T36 t163 x9_1).f0)), (x3_1 ++ ((⟨#[44]⟩ : ByteArray) ++ ((rd_T36 t163 x9_1).f1))), (wrap64 (x9_1 + 1)), (by first | rfl | (simp; done) | (simp [*]; done)), (by first | rfl | (simp; done) | (simp [*]; done)), (by first | rfl | (simp; done) | (simp [*]; done)), H', ⟨by have := HK1.out; omega⟩, ⟨by (with_reducible repeat (first | apply Kd.R_alloc | apply Kd.R_drewN | apply Kd.R_drew)); exact Kd.R_mono (Kd.R_far (p := ⟨gb167, 1, none⟩) (Kd.R_far (p := ⟨gb167, 0, none⟩) (Kd.R_mono HO_7.out (fun k_ hk => (⟨hk, hk.2⟩ : _ ∧ k_ ≠ gb167))) (fun _ hk => hk.2) (.int .u64 ((rd_T36 t163 x9_1).f0))) (fun _ hk => hk.2) (.string ((rd_T36 t163 x9_1).f1))) (fun _ hk => trivial)⟩, ⟨by repeat (first | (with_reducible first | exact HB.out | apply below_alloc | apply pw_below_drewN | apply below_drew1 | refine below_set ?_ GE167.out) | exact HB.out)⟩⟩
                · rw [if_neg c12] at H
                  exact absurd H (by simp)
              · rw [if_neg c11] at H
                exact absurd H (by simp)
          · rw [if_neg c7] at H
            exact absurd H (by simp)
        · rw [if_neg c6] at H
          exact absurd H (by simp)
      · rw [if_neg c5] at H
        have c5b0 : decide (x9_1 < (t163.length : Int)) = false := decide_eq_false c5
        clear c5
        have H' := Aside0.mk H
        clear H
        go_wp2
        go_loopg [0, 3, 6] k1 (fun kq v0 v3 v6 w' => ∃ (x0_2 : Int) (x3_2 : ByteArray) (x6_2 : Int), v0 = .int .u64 x0_2 ∧ v3 = .string x3_2 ∧ v6 = .int .u64 x6_2 ∧ Aside0 (spec_MaskText.l1 kq x0_2 x3_2 x6_2 = some r) ∧ Aside0 (kq ≤ k1) ∧ Aside0 (Below w.heap.size w w'))
        case atStart => exact ⟨(x0_1), (x3_1), (1), (by first | rfl | (simp; done) | (simp [*]; done)), (by first | rfl | (simp; done) | (simp [*]; done)), (by first | rfl | (simp; done) | (simp [*]; done)), H', ⟨Nat.le_refl _⟩, ⟨by repeat (first | (with_reducible first | exact HB.out | apply below_alloc | apply pw_below_drewN | apply below_drew1) | exact HB.out)⟩⟩
        case round =>
          clear H'
          try clear c1
          try clear p1
          try clear q1
          try clear hx1
          try clear p2
          try clear c5
          try clear c5b0
          try clear c6
          try clear c6b0
          try clear p6
          try clear c7
          try clear c7b0
          try clear c8
          try clear c8b0
          try clear c8b1
          try clear c11
          try clear c11b0
          try clear c11b1
          try clear c11b2
          try clear c12
          try clear c12b0
          try clear c12b1
          try clear c12b2
          try clear hcz10_0
          try clear hcz10_1
          try clear hcz14_0
          try clear hcz14_1
          try clear hfz10_0
          try clear hfz10_1
          try clear hfz14_0
          try clear hfz14_1
          try clear hx166_0
          try clear hx166_1
          try clear p166
          try clear p2
          try clear q166
          obtain ⟨x0_2, x3_2, x6_2, rfl, rfl, rfl, HA, HK2, HB⟩ := hrel
          cases gk with
          | zero => exact absurd HA.out (by simp [spec_MaskText.l1])
          | succ k2 =>
            have H := HA.out
            clear HA
            simp only [spec_MaskText.l1] at H
            by_cases c15 : x0_2 = 0
            · rw [if_pos c15] at H
              have c15b0 : (x0_2 == 0) = true := beq_iff_eq.mpr c15
              have c15b1 : (x0_2 != 0) = false := bne_eq_false_iff_eq.mpr c15
              clear c15
              by_cases c16 : x3_2.toList = ([] : List UInt8)
              · rw [if_pos c16] at H
                have c16b0 : (x3_2.toList == ([] : List UInt8)) = true := beq_iff_eq.mpr c16
                have c16b1 : (x3_2.toList != ([] : List UInt8)) = false := bne_eq_false_iff_eq.mpr c16
                clear c16
                obtain rfl := Option.some.inj H
                go_wp2
                go_ret
                exact ⟨by first | rfl | (simp [errW_none, errW_some] <;> rfl) | (simp [*, errW_none, errW_some] <;> rfl), by repeat (first | (with_reducible first | exact HB.out | apply below_alloc | apply pw_below_drewN | apply below_drew1) | exact HB.out)⟩
              · rw [if_neg c16] at H
                have c16b0 : (x3_2.toList == ([] : List UInt8)) = false := beq_eq_false_iff_ne.mpr c16
                have c16b1 : (x3_2.toList != ([] : List UInt8)) = true := bne_iff_ne.mpr c16
                by_cases c17 : 1 ≤ (x3_2.size : Int)
                · rw [if_pos c17] at H
                  have c17b0 := eq_true c17
                  have c17b1 : decide (1 ≤ (x3_2.size : Int)) = true := decide_eq_true c17
                  clear c17
                  obtain rfl := Option.some.inj H
                  go_wp2
                  go_ret
                  exact ⟨by first | rfl | (simp [errW_none, errW_some] <;> rfl) | (simp [*, errW_none, errW_some] <;> rfl), by repeat (first | (with_reducible first | exact HB.out | apply below_alloc | apply pw_below_drewN | apply below_drew1) | exact HB.out)⟩
                · rw [if_neg c17] at H
                  exact absurd H (by simp)
            · rw [if_neg c15] at H
              have c15b0 : (x0_2 == 0) = false := beq_eq_false_iff_ne.mpr c15
              have c15b1 : (x0_2 != 0) = true := bne_iff_ne.mpr c15
              by_cases c18 : (Go.bits .and .u64 x0_2 x6_2) = 0
              · rw [if_pos c18] at H
                have c18b0 : ((Go.bits .and .u64 x0_2 x6_2) == 0) = true := beq_iff_eq.mpr c18
                have c18b1 : ((Go.bits .and .u64 x0_2 x6_2) != 0) = false := bne_eq_false_iff_eq.mpr c18
                clear c18
                have H' := Aside0.mk H
                clear H
                go_wp2
                go_roundg k2
                case measure => have := HK1.out; have := HK2.out; omega
                case rel => exact ⟨(x0_2), (x3_2), (IntKind.u64.wrap (x6_2 * 2)), (by first | rfl | (simp; done) | (simp [*]; done)), (by first | rfl | (simp; done) | (simp [*]; done)), (by first | rfl | (simp; done) | (simp [*]; done)), H', ⟨by have := HK1.out; have := HK2.out; omega⟩, ⟨by repeat (first | (with_reducible first | exact HB.out | apply below_alloc | apply pw_below_drewN | apply below_drew1) | exact HB.out)⟩⟩
              · rw [if_neg c18] at H
                have c18b0 : ((Go.bits .and .u64 x0_2 x6_2) == 0) = false := beq_eq_false_iff_ne.mpr c18
                have c18b1 : ((Go.bits .and .u64 x0_2 x6_2) != 0) = true := bne_iff_ne.mpr c18
                replace H := Option.bind_eq_some_iff.mp H
                obtain ⟨t168, A190, H⟩ := H
                replace H : (if 1 + t168.size ≤ 9223372036854775807 then (if x3_2.size + ((⟨#[44]⟩ : ByteArray) ++ t168).size ≤ 9223372036854775807 then (spec_MaskText.l1 k2 (Go.bits .andNot .u64 x0_2 x6_2) (x3_2 ++ ((⟨#[44]⟩ : ByteArray) ++ t168)) (IntKind.u64.wrap (x6_2 * 2))) else (none)) else (none)) = some r := H
                have A19 := Aside0.mk A190
                clear A190
                by_cases c20 : 1 + t168.size ≤ 9223372036854775807
                · rw [if_pos c20] at H
                  have c20b0 := eq_true c20
                  have c20b1 : decide (1 + t168.size ≤ 9223372036854775807) = true := decide_eq_true c20
                  try have c20b2 : (9223372036854775807 < 1 + t168.size) = False := eq_false (Nat.not_lt.2 c20)
                  by_cases c21 : x3_2.size + ((⟨#[44]⟩ : ByteArray) ++ t168).size ≤ 9223372036854775807
                  · rw [if_pos c21] at H
                    have c21b0 := eq_true c21
                    have c21b1 : decide (x3_2.size + ((⟨#[44]⟩ : ByteArray) ++ t168).size ≤ 9223372036854775807) = true := decide_eq_true c21
                    try have c21b2 : (9223372036854775807 < x3_2.size + ((⟨#[44]⟩ : ByteArray) ++ t168).size) = False := eq_false (Nat.not_lt.2 c21)
                    have H' := Aside0.mk H
                    clear H
                    go_wp2_with (first | ((with_reducible refine gate_callee (f := 13) rfl ?_); refine goesL_ (some 38) rfl rfl Tryd.func13 (by kernel_rfl) rfl #[.int .u64 x6_2] rfl (by (try simp only [List.map_toArray, List.map_cons, List.map_nil]); first | done | rfl | (simp only [List.length_drop, List.length_take]; rfl)) ?_; (with_reducible refine (spec_hexText.calls k2 x6_2 t168 _ A19.out).mono ?_); rintro e w22 ⟨rfl, hb⟩; refine ⟨_, rfl, ?_⟩; have n0_ := Aside0.mk (below_step (by repeat (first | (with_reducible first | exact HB.out | apply below_alloc | apply pw_below_drewN | apply below_drew1) | exact HB.out)) hb); clear HB; have HB := n0_; clear n0_; (try clear hb); (try clear hb2); (try clear hk); (try clear hi)))
                    go_roundg k2
                    case measure => have := HK1.out; have := HK2.out; omega
                    case rel => exact ⟨(Go.bits .andNot .u64 x0_2 x6_2), (x3_2 ++ ((⟨#[44]⟩ : ByteArray) ++ t168)), (IntKind.u64.wrap (x6_2 * 2)), (by first | rfl | (simp; done) | (simp [*]; done)), (by first | rfl | (simp; done) | (simp [*]; done)), (by first | rfl | (simp; done) | (simp [*]; done)), H', ⟨by have := HK1.out; have := HK2.out; omega⟩, ⟨by repeat (first | (with_reducible first | exact HB.out | apply below_alloc | apply pw_below_drewN | apply below_drew1) | exact HB.out)⟩⟩
                  · rw [if_neg c21] at H
                    exact absurd H (by simp)
                · rw [if_neg c20] at H
                  exact absurd H (by simp)

end Go.Proofs.YtjabjcgomnjpcaaDoor.PM
