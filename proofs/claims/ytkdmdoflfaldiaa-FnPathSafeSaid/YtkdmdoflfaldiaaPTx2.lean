-- Written by a program of this session.
import Derived.Test.YtkdmdoflfaldiaaPTx0
import Derived.Test.YtkdmdoflfaldiaaPTx1
namespace Go.Proofs.Ytkdmdoflfaldiaa.PT
open Go.RowKit Go.Proofs.YtkdmdoflfaldiaaW.PrintWords Go.Proofs.YtkdmdoflfaldiaaW.PrintLast Go.Proofs.YtkdmdoflfaldiaaW.PrintMore Go.Proofs.Ytkdmdoflfaldiaa.Given
attribute [local go_sem] max2_int min2_int max_two min_two max_three min_three max_four min_four   -- for this text's walks alone
set_option linter.unusedVariables false
set_option linter.unusedSimpArgs false

/-! ### spec_PathClean: function 31 -/
mutual
def spec_PathClean.j0 : Nat → ByteArray → Bool → Option (ByteArray)
  | 0, _, _ => none
  | k + 1, x0, x3 => (spec_slashPieces.f k x0).bind fun t111 => (spec_PathClean.l0 k x3 ([] : List ByteArray) t111 (t111.length : Int) 0)
def spec_PathClean.l0 : Nat → Bool → List ByteArray → List ByteArray → Int → Int → Option (ByteArray)
  | 0, _, _, _, _, _ => none
  | k + 1, x3, x4, x18, x19, x20 => if x20 < x19 then (if 0 ≤ x20 then (if x20 < (x18.length : Int) then (if (rdOf ByteArray.empty x18 x20).toList = ([] : List UInt8) then (spec_PathClean.j2 k x3 x4 (rdOf ByteArray.empty x18 x20) x18 x19 x20 true) else (spec_PathClean.j2 k x3 x4 (rdOf ByteArray.empty x18 x20) x18 x19 x20 ((rdOf ByteArray.empty x18 x20).toList == ([46] : List UInt8)))) else (none)) else (none)) else (spec_PathClean.l1 k x3 (⟨#[]⟩ : ByteArray) x4 (x4.length : Int) 0)
def spec_PathClean.j2 : Nat → Bool → List ByteArray → ByteArray → List ByteArray → Int → Int → Bool → Option (ByteArray)
  | 0, _, _, _, _, _, _, _ => none
  | k + 1, x3, x4, x6, x18, x19, x20, x28 => if x28 = true then (spec_PathClean.l0 k x3 x4 x18 x19 (wrap64 (x20 + 1))) else (if x6.toList = ([46, 46] : List UInt8) then (if (x4.length : Int) > 0 then (if 0 ≤ (wrap64 ((x4.length : Int) - 1)) then (if (wrap64 ((x4.length : Int) - 1)) < (x4.length : Int) then (spec_PathClean.j3 k x3 x4 x6 x18 x19 x20 ((rdOf ByteArray.empty x4 (wrap64 ((x4.length : Int) - 1))).toList != ([46, 46] : List UInt8))) else (none)) else (none)) else (spec_PathClean.j3 k x3 x4 x6 x18 x19 x20 false)) else (spec_PathClean.j3 k x3 x4 x6 x18 x19 x20 false))
def spec_PathClean.j3 : Nat → Bool → List ByteArray → ByteArray → List ByteArray → Int → Int → Bool → Option (ByteArray)
  | 0, _, _, _, _, _, _, _ => none
  | k + 1, x3, x4, x6, x18, x19, x20, x35 => if x35 = true then (if 0 ≤ (wrap64 ((x4.length : Int) - 1)) then (if (wrap64 ((x4.length : Int) - 1)) ≤ (x4.length : Int) then (spec_PathClean.l0 k x3 (x4.take ((wrap64 ((x4.length : Int) - 1)) : Int).toNat) x18 x19 (wrap64 (x20 + 1))) else (none)) else (none)) else (if x6.toList = ([46, 46] : List UInt8) then (if x3 = true then (spec_PathClean.l0 k x3 x4 x18 x19 (wrap64 (x20 + 1))) else (if x4.length < 8796093022208 then (spec_PathClean.l0 k x3 (x4 ++ [x6]) x18 x19 (wrap64 (x20 + 1))) else (none))) else (if x4.length < 8796093022208 then (spec_PathClean.l0 k x3 (x4 ++ [x6]) x18 x19 (wrap64 (x20 + 1))) else (none)))
def spec_PathClean.l1 : Nat → Bool → ByteArray → List ByteArray → Int → Int → Option (ByteArray)
  | 0, _, _, _, _, _ => none
  | k + 1, x3, x7, x64, x65, x66 => if x66 < x65 then (if 0 ≤ x66 then (if x66 < (x64.length : Int) then (if x66 > 0 then (if x7.size + 1 ≤ 9223372036854775807 then (if (x7 ++ (⟨#[47]⟩ : ByteArray)).size + (rdOf ByteArray.empty x64 x66).size ≤ 9223372036854775807 then (spec_PathClean.l1 k x3 ((x7 ++ (⟨#[47]⟩ : ByteArray)) ++ (rdOf ByteArray.empty x64 x66)) x64 x65 (wrap64 (x66 + 1))) else (none)) else (none)) else (if x7.size + (rdOf ByteArray.empty x64 x66).size ≤ 9223372036854775807 then (spec_PathClean.l1 k x3 (x7 ++ (rdOf ByteArray.empty x64 x66)) x64 x65 (wrap64 (x66 + 1))) else (none))) else (none)) else (none)) else (if x3 = true then (if 1 + x7.size ≤ 9223372036854775807 then (some ((⟨#[47]⟩ : ByteArray) ++ x7)) else (none)) else (if x7.toList = ([] : List UInt8) then (some (⟨#[46]⟩ : ByteArray)) else (some x7)))
end
def spec_PathClean.f (k : Nat) (a0 : ByteArray) : Option (ByteArray) := if a0.toList = ([] : List UInt8) then (spec_PathClean.j0 k a0 false) else (if 0 < (a0.size : Int) then (spec_PathClean.j0 k a0 ((bt a0 0) == 47)) else (none))
theorem spec_PathClean.mono_l : ∀ k, (∀ y0 y1, LeO (spec_PathClean.j0 k y0 y1) (spec_PathClean.j0 (k + 1) y0 y1)) ∧ (∀ y0 y1 y2 y3 y4, LeO (spec_PathClean.l0 k y0 y1 y2 y3 y4) (spec_PathClean.l0 (k + 1) y0 y1 y2 y3 y4)) ∧ (∀ y0 y1 y2 y3 y4 y5 y6, LeO (spec_PathClean.j2 k y0 y1 y2 y3 y4 y5 y6) (spec_PathClean.j2 (k + 1) y0 y1 y2 y3 y4 y5 y6)) ∧ (∀ y0 y1 y2 y3 y4 y5 y6, LeO (spec_PathClean.j3 k y0 y1 y2 y3 y4 y5 y6) (spec_PathClean.j3 (k + 1) y0 y1 y2 y3 y4 y5 y6)) ∧ (∀ y0 y1 y2 y3 y4, LeO (spec_PathClean.l1 k y0 y1 y2 y3 y4) (spec_PathClean.l1 (k + 1) y0 y1 y2 y3 y4))
  | 0 => ⟨fun _ _ r h => by simp [spec_PathClean.j0] at h, fun _ _ _ _ _ r h => by simp [spec_PathClean.l0] at h, fun _ _ _ _ _ _ _ r h => by simp [spec_PathClean.j2] at h, fun _ _ _ _ _ _ _ r h => by simp [spec_PathClean.j3] at h, fun _ _ _ _ _ r h => by simp [spec_PathClean.l1] at h⟩
  | k + 1 => by
    obtain ⟨ih0, ih1, ih2, ih3, ih4⟩ := spec_PathClean.mono_l k
    refine ⟨?_, ?_, ?_, ?_, ?_⟩
    · intro y0 y1
      unfold spec_PathClean.j0
      repeat' first
      | (with_reducible exact ih0 _ _)
      | (with_reducible exact ih1 _ _ _ _ _)
      | (with_reducible exact ih2 _ _ _ _ _ _ _)
      | (with_reducible exact ih3 _ _ _ _ _ _ _)
      | (with_reducible exact ih4 _ _ _ _ _)
      | (with_reducible exact spec_slashPieces.mono _ _)
      | (with_reducible exact LeO.refl _)
      | (with_reducible exact LeO.none _)
      | (with_reducible refine LeO.ite ?_ ?_)
      | (with_reducible refine LeO.bind ?_ (fun _ => ?_))
      | exact ih0 _ _
      | exact ih1 _ _ _ _ _
      | exact ih2 _ _ _ _ _ _ _
      | exact ih3 _ _ _ _ _ _ _
      | exact ih4 _ _ _ _ _
      | exact spec_slashPieces.mono _ _
      | exact LeO.none _
      | refine LeO.ite ?_ ?_
      | refine LeO.bind ?_ (fun _ => ?_)
    · intro y0 y1 y2 y3 y4
      unfold spec_PathClean.l0
      repeat' first
      | (with_reducible exact ih0 _ _)
      | (with_reducible exact ih1 _ _ _ _ _)
      | (with_reducible exact ih2 _ _ _ _ _ _ _)
      | (with_reducible exact ih3 _ _ _ _ _ _ _)
      | (with_reducible exact ih4 _ _ _ _ _)
      | (with_reducible exact spec_slashPieces.mono _ _)
      | (with_reducible exact LeO.refl _)
      | (with_reducible exact LeO.none _)
      | (with_reducible refine LeO.ite ?_ ?_)
      | (with_reducible refine LeO.bind ?_ (fun _ => ?_))
      | exact ih0 _ _
      | exact ih1 _ _ _ _ _
      | exact ih2 _ _ _ _ _ _ _
      | exact ih3 _ _ _ _ _ _ _
      | exact ih4 _ _ _ _ _
      | exact spec_slashPieces.mono _ _
      | exact LeO.none _
      | refine LeO.ite ?_ ?_
      | refine LeO.bind ?_ (fun _ => ?_)
    · intro y0 y1 y2 y3 y4 y5 y6
      unfold spec_PathClean.j2
      repeat' first
      | (with_reducible exact ih0 _ _)
      | (with_reducible exact ih1 _ _ _ _ _)
      | (with_reducible exact ih2 _ _ _ _ _ _ _)
      | (with_reducible exact ih3 _ _ _ _ _ _ _)
      | (with_reducible exact ih4 _ _ _ _ _)
      | (with_reducible exact spec_slashPieces.mono _ _)
      | (with_reducible exact LeO.refl _)
      | (with_reducible exact LeO.none _)
      | (with_reducible refine LeO.ite ?_ ?_)
      | (with_reducible refine LeO.bind ?_ (fun _ => ?_))
      | exact ih0 _ _
      | exact ih1 _ _ _ _ _
      | exact ih2 _ _ _ _ _ _ _
      | exact ih3 _ _ _ _ _ _ _
      | exact ih4 _ _ _ _ _
      | exact spec_slashPieces.mono _ _
      | exact LeO.none _
      | refine LeO.ite ?_ ?_
      | refine LeO.bind ?_ (fun _ => ?_)
    · intro y0 y1 y2 y3 y4 y5 y6
      unfold spec_PathClean.j3
      repeat' first
      | (with_reducible exact ih0 _ _)
      | (with_reducible exact ih1 _ _ _ _ _)
      | (with_reducible exact ih2 _ _ _ _ _ _ _)
      | (with_reducible exact ih3 _ _ _ _ _ _ _)
      | (with_reducible exact ih4 _ _ _ _ _)
      | (with_reducible exact spec_slashPieces.mono _ _)
      | (with_reducible exact LeO.refl _)
      | (with_reducible exact LeO.none _)
      | (with_reducible refine LeO.ite ?_ ?_)
      | (with_reducible refine LeO.bind ?_ (fun _ => ?_))
      | exact ih0 _ _
      | exact ih1 _ _ _ _ _
      | exact ih2 _ _ _ _ _ _ _
      | exact ih3 _ _ _ _ _ _ _
      | exact ih4 _ _ _ _ _
      | exact spec_slashPieces.mono _ _
      | exact LeO.none _
      | refine LeO.ite ?_ ?_
      | refine LeO.bind ?_ (fun _ => ?_)
    · intro y0 y1 y2 y3 y4
      unfold spec_PathClean.l1
      repeat' first
      | (with_reducible exact ih0 _ _)
      | (with_reducible exact ih1 _ _ _ _ _)
      | (with_reducible exact ih2 _ _ _ _ _ _ _)
      | (with_reducible exact ih3 _ _ _ _ _ _ _)
      | (with_reducible exact ih4 _ _ _ _ _)
      | (with_reducible exact spec_slashPieces.mono _ _)
      | (with_reducible exact LeO.refl _)
      | (with_reducible exact LeO.none _)
      | (with_reducible refine LeO.ite ?_ ?_)
      | (with_reducible refine LeO.bind ?_ (fun _ => ?_))
      | exact ih0 _ _
      | exact ih1 _ _ _ _ _
      | exact ih2 _ _ _ _ _ _ _
      | exact ih3 _ _ _ _ _ _ _
      | exact ih4 _ _ _ _ _
      | exact spec_slashPieces.mono _ _
      | exact LeO.none _
      | refine LeO.ite ?_ ?_
      | refine LeO.bind ?_ (fun _ => ?_)
theorem spec_PathClean.mono : ∀ a0 k, LeO (spec_PathClean.f k a0) (spec_PathClean.f (k + 1) a0) := by
  intro a0 k
  obtain ⟨ih0, ih1, ih2, ih3, ih4⟩ := spec_PathClean.mono_l k
  unfold spec_PathClean.f
  repeat' first
      | (with_reducible exact ih0 _ _)
      | (with_reducible exact ih1 _ _ _ _ _)
      | (with_reducible exact ih2 _ _ _ _ _ _ _)
      | (with_reducible exact ih3 _ _ _ _ _ _ _)
      | (with_reducible exact ih4 _ _ _ _ _)
      | (with_reducible exact spec_slashPieces.mono _ _)
      | (with_reducible exact LeO.refl _)
      | (with_reducible exact LeO.none _)
      | (with_reducible refine LeO.ite ?_ ?_)
      | (with_reducible refine LeO.bind ?_ (fun _ => ?_))
      | exact ih0 _ _
      | exact ih1 _ _ _ _ _
      | exact ih2 _ _ _ _ _ _ _
      | exact ih3 _ _ _ _ _ _ _
      | exact ih4 _ _ _ _ _
      | exact spec_slashPieces.mono _ _
      | exact LeO.none _
      | refine LeO.ite ?_ ?_
      | refine LeO.bind ?_ (fun _ => ?_)
set_option maxHeartbeats 8000000 in
set_option maxRecDepth 100000 in
theorem spec_PathClean.calls (k : Nat) (a0 : ByteArray) (r : ByteArray) (w : World) (h : spec_PathClean.f k a0 = some r) :
    Calls Try.prog 31 #[.string a0] w fun e w' => e = .returned (.string r) ∧ Below w.heap.size w w' := by
  have HB := Aside0.mk (Below.refl w.heap.size w)
  have H : (if a0.toList = ([] : List UInt8) then (spec_PathClean.j0 k a0 false) else (if 0 < (a0.size : Int) then (spec_PathClean.j0 k a0 ((bt a0 0) == 47)) else (none))) = some r := h
  clear h
  have HC2 := Aside0.mk H
  clear H
  go_enter Try.func31, Try.ntmps31
  go_upto_region 1 with (fail)
  go_cut [3] (fun v3 wc => ∃ (kq : Nat) (x3_1 : Bool), v3 = .bool x3_1 ∧ Aside0 (spec_PathClean.j0 kq a0 x3_1 = some r) ∧ Aside0 (kq ≤ k) ∧ Aside0 (Below w.heap.size w wc))
  case first =>
    have H := HC2.out
    clear HC2
    by_cases c3 : a0.toList = ([] : List UInt8)
    · rw [if_pos c3] at H
      have c3b0 : (a0.toList == ([] : List UInt8)) = true := beq_iff_eq.mpr c3
      have c3b1 : (a0.toList != ([] : List UInt8)) = false := bne_eq_false_iff_eq.mpr c3
      clear c3
      (first | rw [c3b0] | (simp only [i64_w, i32_w]; rw [c3b0]) | skip)
      have H' := Aside0.mk H
      clear H
      go_wp2
      go_meet
      case rel => exact ⟨_, (false), (by first | rfl | (simp; done) | (simp [*]; done)), H', ⟨by first | omega | exact Nat.le_refl _⟩, ⟨by repeat (first | (with_reducible first | exact HB.out | apply below_alloc | apply pw_below_drewN | apply below_drew1) | exact HB.out)⟩⟩
    · rw [if_neg c3] at H
      have c3b0 : (a0.toList == ([] : List UInt8)) = false := beq_eq_false_iff_ne.mpr c3
      have c3b1 : (a0.toList != ([] : List UInt8)) = true := bne_iff_ne.mpr c3
      (first | rw [c3b0] | (simp only [i64_w, i32_w]; rw [c3b0]) | skip)
      by_cases c4 : 0 < (a0.size : Int)
      · rw [if_pos c4] at H
        have c4b0 : decide (0 < (a0.size : Int)) = true := decide_eq_true c4
        have c4b1 : decide (0 < a0.size) = true := decide_eq_true (by omega)
        clear c4
        have H' := Aside0.mk H
        clear H
        have p5 : 0 ≤ (0 : Int) := (by omega)
        have q5 : 0 < a0.size := (by have : (0 : Int) < (a0.size : Int) := of_decide_eq_true (by first | (with_reducible assumption) | assumption); omega)
        have hx5 : ∀ h : 0 < a0.size, ((a0[0]'h).toNat : Int) = bt a0 0 := bt_at a0 0
        clear p5
        have qi5 : (0 < (a0.size : Int)) = True := eq_true (of_decide_eq_true (by first | (with_reducible assumption) | assumption))
        replace q5 := eq_true q5
        go_wp2
        go_meet
        case rel => exact ⟨_, (((bt a0 0) == 47)), (by first | rfl | (simp; done) | (simp [*]; done)), H', ⟨by first | omega | exact Nat.le_refl _⟩, ⟨by repeat (first | (with_reducible first | exact HB.out | apply below_alloc | apply pw_below_drewN | apply below_drew1) | exact HB.out)⟩⟩
      · rw [if_neg c4] at H
        exact absurd H (by simp)
  case rest =>
    clear HC2
    try clear p2
    try clear c3
    try clear c3b0
    try clear c3b1
    try clear c4
    try clear c4b0
    try clear c4b1
    try clear p5
    try clear q5
    try clear hx5
    try clear qi5
    try clear p5
    try clear q5
    obtain ⟨kq, x3_1, rfl, HA, HJ1, HB⟩ := hcut
    cases kq with
    | zero => exact absurd HA.out (by simp [spec_PathClean.j0])
    | succ kj1 =>
      have H := HA.out
      clear HA
      simp only [spec_PathClean.j0] at H
      replace H := Option.bind_eq_some_iff.mp H
      obtain ⟨t111, A60, H⟩ := H
      replace H : (spec_PathClean.l0 kj1 x3_1 ([] : List ByteArray) t111 (t111.length : Int) 0) = some r := H
      have A6 := Aside0.mk A60
      clear A60
      have H' := Aside0.mk H
      clear H
      go_wp2_with (first | ((with_reducible refine gate_callee (f := 41) rfl ?_); refine goesL_ (some 18) rfl rfl Try.func41 (by kernel_rfl) rfl #[.string a0] rfl (by (try simp only [List.map_toArray, List.map_cons, List.map_nil]); first | done | rfl | (simp only [List.length_drop, List.length_take]; rfl)) ?_; (with_reducible refine (spec_slashPieces.calls kj1 a0 t111 _ A6.out).mono ?_); rintro e w7 ⟨v112, rfl, ho0, hb⟩; refine ⟨_, rfl, ?_⟩; have n0_ := Aside0.mk (Kd.R_lower ho0 (below_size (by repeat (first | (with_reducible first | exact HB.out | apply below_alloc | apply pw_below_drewN | apply below_drew1) | exact HB.out)))); have n1_ := Aside0.mk (below_step (by repeat (first | (with_reducible first | exact HB.out | apply below_alloc | apply pw_below_drewN | apply below_drew1) | exact HB.out)) hb); clear HB; have HO113 := n0_; have HB := n1_; clear n0_ n1_; (try clear hb); (try clear hb2); (try clear hk); (try clear hi); (try clear ho0); obtain ⟨Ao8, co8, eo8⟩ := Kd.R_slice HO113.out; subst eo8))
      go_loopg [4, 20] kj1 (fun kq v4 v20 w' => ∃ (x4_2 : List ByteArray) (x20_2 : Int), v20 = .int .i64 x20_2 ∧ Aside0 (spec_PathClean.l0 kq x3_1 x4_2 t111 (t111.length : Int) x20_2 = some r) ∧ Aside0 (kq ≤ kj1) ∧ Aside0 (Kd.R Kd.string 9 w' w.heap.size (fun k_ => some k_ ≠ ((.slice Ao8 t111.length co8) : Value).ownBlock) v4 x4_2) ∧ Aside0 (Kd.R Kd.string 9 w' w.heap.size (fun k_ => some k_ ≠ (v4 : Value).ownBlock) (.slice Ao8 t111.length co8) t111) ∧ Aside0 (Below w.heap.size w w'))
      case atStart => exact ⟨(([] : List ByteArray)), (0), (by first | rfl | (simp; done) | (simp [*]; done)), H', ⟨Nat.le_refl _⟩, ⟨by first | exact Kd.R_nil _ _ _ _ _ | exact Kd.N_nil _ _ _ _ _ | exact Kd.V_nil _ _ _ _ _ | exact Kd.Q_nil _ _ _ _ _ | exact Kd.S_nil _ _ _ _ _⟩, ⟨by (with_reducible repeat (first | apply Kd.R_alloc | apply Kd.R_drewN | apply Kd.R_drew)); exact Kd.R_mono HO113.out (fun _ hk => (by simp [Value.ownBlock]))⟩, ⟨by repeat (first | (with_reducible first | exact HB.out | apply below_alloc | apply pw_below_drewN | apply below_drew1) | exact HB.out)⟩⟩
      case round =>
        clear H'
        try clear p2
        try clear c3
        try clear c3b0
        try clear c3b1
        try clear c4
        try clear c4b0
        try clear c4b1
        try clear p5
        try clear q5
        try clear hx5
        try clear qi5
        try clear p2
        try clear p5
        try clear q5
        obtain ⟨x4_2, x20_2, rfl, HA, HK2, HO_4, HO_18, HB⟩ := hrel
        cases gk with
        | zero => exact absurd HA.out (by simp [spec_PathClean.l0])
        | succ k2 =>
          have H := HA.out
          clear HA
          simp only [spec_PathClean.l0] at H
          by_cases c9 : x20_2 < (t111.length : Int)
          · rw [if_pos c9] at H
            have c9b0 : decide (x20_2 < (t111.length : Int)) = true := decide_eq_true c9
            clear c9
            by_cases c10 : 0 ≤ x20_2
            · rw [if_pos c10] at H
              have c10b0 : decide (0 ≤ x20_2) = true := decide_eq_true c10
              clear c10
              by_cases c11 : x20_2 < (t111.length : Int)
              · rw [if_pos c11] at H
                have c11b0 : decide (x20_2 < (t111.length : Int)) = true := decide_eq_true c11
                clear c11
                have HC12 := Aside0.mk H
                clear H
                have p114 : 0 ≤ (x20_2 : Int) := of_decide_eq_true (by first | (with_reducible assumption) | assumption)
                have q114 : x20_2 < (t111.length : Int) := of_decide_eq_true (by first | (with_reducible assumption) | assumption)
                obtain ⟨ad114, e114, hx114_0⟩ := Kd.at_string (Kd.R_reads' HO_18.out).2.2 x20_2 p114 q114
                cases e114
                replace p114 := eq_true p114
                replace q114 := eq_true q114
                go_upto_region 7 with (fail)
                go_cut [28] (fun v28 wc => ∃ (kq : Nat) (x28_11 : Bool), v28 = .bool x28_11 ∧ Aside0 (spec_PathClean.j2 kq x3_1 x4_2 (rdOf ByteArray.empty t111 x20_2) t111 (t111.length : Int) x20_2 x28_11 = some r) ∧ Aside0 (kq ≤ k2) ∧ Aside0 (Kd.R Kd.string 9 wc w.heap.size (fun k_ => some k_ ≠ ((.slice (some ad114) t111.length co8) : Value).ownBlock) u4 x4_2) ∧ Aside0 (Kd.R Kd.string 9 wc w.heap.size (fun k_ => some k_ ≠ (u4 : Value).ownBlock) (.slice (some ad114) t111.length co8) t111) ∧ Aside0 (Below w.heap.size w wc))
                case first =>
                  have H := HC12.out
                  clear HC12
                  by_cases c13 : (rdOf ByteArray.empty t111 x20_2).toList = ([] : List UInt8)
                  · rw [if_pos c13] at H
                    have c13b0 : ((rdOf ByteArray.empty t111 x20_2).toList == ([] : List UInt8)) = true := beq_iff_eq.mpr c13
                    have c13b1 : ((rdOf ByteArray.empty t111 x20_2).toList != ([] : List UInt8)) = false := bne_eq_false_iff_eq.mpr c13
                    clear c13
                    (first | rw [c13b0] | (simp only [i64_w, i32_w]; rw [c13b0]) | skip)
                    have H' := Aside0.mk H
                    clear H
                    go_wp2
                    go_meet
                    case rel => exact ⟨_, (true), (by first | rfl | (simp; done) | (simp [*]; done)), H', ⟨by have := HJ1.out; have := HK2.out; first | omega | exact Nat.le_refl _⟩, ⟨by (with_reducible repeat (first | apply Kd.R_alloc | apply Kd.R_drewN | apply Kd.R_drew)); exact HO_4.out⟩, ⟨by (with_reducible repeat (first | apply Kd.R_alloc | apply Kd.R_drewN | apply Kd.R_drew)); exact HO_18.out⟩, ⟨by repeat (first | (with_reducible first | exact HB.out | apply below_alloc | apply pw_below_drewN | apply below_drew1) | exact HB.out)⟩⟩
                  · rw [if_neg c13] at H
                    have c13b0 : ((rdOf ByteArray.empty t111 x20_2).toList == ([] : List UInt8)) = false := beq_eq_false_iff_ne.mpr c13
                    have c13b1 : ((rdOf ByteArray.empty t111 x20_2).toList != ([] : List UInt8)) = true := bne_iff_ne.mpr c13
                    (first | rw [c13b0] | (simp only [i64_w, i32_w]; rw [c13b0]) | skip)
                    have H' := Aside0.mk H
                    clear H
                    go_wp2
                    go_meet
                    case rel => exact ⟨_, (((rdOf ByteArray.empty t111 x20_2).toList == ([46] : List UInt8))), (by first | rfl | (simp; done) | (simp [*]; done)), H', ⟨by have := HJ1.out; have := HK2.out; first | omega | exact Nat.le_refl _⟩, ⟨by (with_reducible repeat (first | apply Kd.R_alloc | apply Kd.R_drewN | apply Kd.R_drew)); exact HO_4.out⟩, ⟨by (with_reducible repeat (first | apply Kd.R_alloc | apply Kd.R_drewN | apply Kd.R_drew)); exact HO_18.out⟩, ⟨by repeat (first | (with_reducible first | exact HB.out | apply below_alloc | apply pw_below_drewN | apply below_drew1) | exact HB.out)⟩⟩
                case rest =>
                  clear HC12
                  try clear c1
                  try clear p1
                  try clear q1
                  try clear hx1
                  try clear p2
                  try clear c3
                  try clear c3b0
                  try clear c3b1
                  try clear c4
                  try clear c4b0
                  try clear c4b1
                  try clear p5
                  try clear q5
                  try clear hx5
                  try clear qi5
                  try clear c9
                  try clear c9b0
                  try clear c10
                  try clear c10b0
                  try clear c11
                  try clear c11b0
                  try clear p11
                  try clear q11
                  try clear hx11
                  try clear c13
                  try clear c13b0
                  try clear c13b1
                  try clear hx114_0
                  try clear p114
                  try clear p2
                  try clear p5
                  try clear q114
                  try clear q5
                  obtain ⟨kq, x28_11, rfl, HA, HJ11, HO_4, HO_18, HB⟩ := hcut
                  cases kq with
                  | zero => exact absurd HA.out (by simp [spec_PathClean.j2])
                  | succ kj11 =>
                    have H := HA.out
                    clear HA
                    simp only [spec_PathClean.j2] at H
                    by_cases c14 : x28_11 = true
                    · subst c14
                      have H1 : (spec_PathClean.l0 kj11 x3_1 x4_2 t111 (t111.length : Int) (wrap64 (x20_2 + 1))) = some r := by rw [if_pos rfl] at H; exact H
                      clear H
                      have H := H1
                      clear H1
                      have H' := Aside0.mk H
                      clear H
                      go_wp2
                      go_roundg kj11
                      case measure => have := HJ1.out; have := HK2.out; have := HJ11.out; omega
                      case rel => exact ⟨(x4_2), (wrap64 (x20_2 + 1)), (by first | rfl | (simp; done) | (simp [*]; done)), H', ⟨by have := HJ1.out; have := HK2.out; have := HJ11.out; omega⟩, ⟨by (with_reducible repeat (first | apply Kd.R_alloc | apply Kd.R_drewN | apply Kd.R_drew)); exact HO_4.out⟩, ⟨by (with_reducible repeat (first | apply Kd.R_alloc | apply Kd.R_drewN | apply Kd.R_drew)); exact HO_18.out⟩, ⟨by repeat (first | (with_reducible first | exact HB.out | apply below_alloc | apply pw_below_drewN | apply below_drew1) | exact HB.out)⟩⟩
                    · replace c14 := Bool.eq_false_iff.mpr c14
                      subst c14
                      have H1 : (if (rdOf ByteArray.empty t111 x20_2).toList = ([46, 46] : List UInt8) then (if (x4_2.length : Int) > 0 then (if 0 ≤ (wrap64 ((x4_2.length : Int) - 1)) then (if (wrap64 ((x4_2.length : Int) - 1)) < (x4_2.length : Int) then (spec_PathClean.j3 kj11 x3_1 x4_2 (rdOf ByteArray.empty t111 x20_2) t111 (t111.length : Int) x20_2 ((rdOf ByteArray.empty x4_2 (wrap64 ((x4_2.length : Int) - 1))).toList != ([46, 46] : List UInt8))) else (none)) else (none)) else (spec_PathClean.j3 kj11 x3_1 x4_2 (rdOf ByteArray.empty t111 x20_2) t111 (t111.length : Int) x20_2 false)) else (spec_PathClean.j3 kj11 x3_1 x4_2 (rdOf ByteArray.empty t111 x20_2) t111 (t111.length : Int) x20_2 false)) = some r := by rw [if_neg (show ¬ (false = true) by decide)] at H; exact H
                      clear H
                      have H := H1
                      clear H1
                      have HC15 := Aside0.mk H
                      clear H
                      go_upto_region 8 with (fail)
                      go_cut [35] (fun v35 wc => ∃ (kq : Nat) (x35_14 : Bool), v35 = .bool x35_14 ∧ Aside0 (spec_PathClean.j3 kq x3_1 x4_2 (rdOf ByteArray.empty t111 x20_2) t111 (t111.length : Int) x20_2 x35_14 = some r) ∧ Aside0 (kq ≤ kj11) ∧ Aside0 (Kd.R Kd.string 9 wc w.heap.size (fun k_ => some k_ ≠ ((.slice (some ad114) t111.length co8) : Value).ownBlock) u4 x4_2) ∧ Aside0 (Kd.R Kd.string 9 wc w.heap.size (fun k_ => some k_ ≠ (u4 : Value).ownBlock) (.slice (some ad114) t111.length co8) t111) ∧ Aside0 (Below w.heap.size w wc))
                      case first =>
                        have H := HC15.out
                        clear HC15
                        by_cases c16 : (rdOf ByteArray.empty t111 x20_2).toList = ([46, 46] : List UInt8)
                        · rw [if_pos c16] at H
                          have c16b0 : ((rdOf ByteArray.empty t111 x20_2).toList == ([46, 46] : List UInt8)) = true := beq_iff_eq.mpr c16
                          have c16b1 : ((rdOf ByteArray.empty t111 x20_2).toList != ([46, 46] : List UInt8)) = false := bne_eq_false_iff_eq.mpr c16
                          clear c16
                          (first | rw [c16b0] | (simp only [i64_w, i32_w]; rw [c16b0]) | skip)
                          by_cases c17 : (x4_2.length : Int) > 0
                          · rw [if_pos c17] at H
                            have c17b0 : decide (0 < (x4_2.length : Int)) = true := decide_eq_true c17
                            have c17b1 : decide (0 < x4_2.length) = true := decide_eq_true (by omega)
                            clear c17
                            obtain ⟨ji18, hji18⟩ : ∃ j_ : Int, (wrap64 ((x4_2.length : Int) - 1)) = j_ := ⟨_, rfl⟩
                            replace H : (if 0 ≤ (ji18) then (if (ji18) < (x4_2.length : Int) then (spec_PathClean.j3 kj11 x3_1 x4_2 (rdOf ByteArray.empty t111 x20_2) t111 (t111.length : Int) x20_2 ((rdOf ByteArray.empty x4_2 (ji18)).toList != ([46, 46] : List UInt8))) else (none)) else (none)) = some r := by first | (rw [hji18] at H; exact H) | (simp only [hji18] at H ⊢; exact H)
                            have hji18w : (IntKind.i64.wrap ((x4_2.length : Int) - 1)) = ji18 := (i64_w _).trans hji18
                            by_cases c19 : 0 ≤ (ji18)
                            · rw [if_pos c19] at H
                              have c19b0 : decide (0 ≤ (ji18)) = true := decide_eq_true c19
                              clear c19
                              by_cases c20 : (ji18) < (x4_2.length : Int)
                              · rw [if_pos c20] at H
                                have c20b0 : decide ((ji18) < (x4_2.length : Int)) = true := decide_eq_true c20
                                clear c20
                                have H' := Aside0.mk H
                                clear H
                                obtain ⟨Ao21, co21, eo21⟩ := Kd.R_slice HO_4.out
                                subst eo21
                                have p115 : 0 ≤ ((ji18) : Int) := of_decide_eq_true (by first | (with_reducible assumption) | assumption)
                                have q115 : (ji18) < (x4_2.length : Int) := of_decide_eq_true (by first | (with_reducible assumption) | assumption)
                                obtain ⟨ad115, e115, hx115_0⟩ := Kd.at_string (Kd.R_reads' HO_4.out).2.2 (ji18) p115 q115
                                cases e115
                                replace p115 := eq_true p115
                                replace q115 := eq_true q115
                                go_wp2
                                go_meet
                                case rel => exact ⟨_, (((rdOf ByteArray.empty x4_2 (ji18)).toList != ([46, 46] : List UInt8))), (by first | rfl | (simp; done) | (simp only [← hji18] <;> (first | rfl | simp)) | (simp [*]; done)), H', ⟨by have := HJ1.out; have := HK2.out; have := HJ11.out; first | omega | exact Nat.le_refl _⟩, ⟨by (with_reducible repeat (first | apply Kd.R_alloc | apply Kd.R_drewN | apply Kd.R_drew)); exact HO_4.out⟩, ⟨by (with_reducible repeat (first | apply Kd.R_alloc | apply Kd.R_drewN | apply Kd.R_drew)); exact HO_18.out⟩, ⟨by repeat (first | (with_reducible first | exact HB.out | apply below_alloc | apply pw_below_drewN | apply below_drew1) | exact HB.out)⟩⟩
                              · rw [if_neg c20] at H
                                exact absurd H (by simp)
                            · rw [if_neg c19] at H
                              exact absurd H (by simp)
                          · rw [if_neg c17] at H
                            have c17b0 : decide (0 < (x4_2.length : Int)) = false := decide_eq_false c17
                            have c17b1 : decide (0 < x4_2.length) = false := decide_eq_false (by omega)
                            clear c17
                            have H' := Aside0.mk H
                            clear H
                            obtain ⟨Ao22, co22, eo22⟩ := Kd.R_slice HO_4.out
                            subst eo22
                            go_wp2
                            go_meet
                            case rel => exact ⟨_, (false), (by first | rfl | (simp; done) | (simp [*]; done)), H', ⟨by have := HJ1.out; have := HK2.out; have := HJ11.out; first | omega | exact Nat.le_refl _⟩, ⟨by (with_reducible repeat (first | apply Kd.R_alloc | apply Kd.R_drewN | apply Kd.R_drew)); exact HO_4.out⟩, ⟨by (with_reducible repeat (first | apply Kd.R_alloc | apply Kd.R_drewN | apply Kd.R_drew)); exact HO_18.out⟩, ⟨by repeat (first | (with_reducible first | exact HB.out | apply below_alloc | apply pw_below_drewN | apply below_drew1) | exact HB.out)⟩⟩
                        · rw [if_neg c16] at H
                          have c16b0 : ((rdOf ByteArray.empty t111 x20_2).toList == ([46, 46] : List UInt8)) = false := beq_eq_false_iff_ne.mpr c16
                          have c16b1 : ((rdOf ByteArray.empty t111 x20_2).toList != ([46, 46] : List UInt8)) = true := bne_iff_ne.mpr c16
                          (first | rw [c16b0] | (simp only [i64_w, i32_w]; rw [c16b0]) | skip)
                          have H' := Aside0.mk H
                          clear H
                          go_wp2
                          go_meet
                          case rel => exact ⟨_, (false), (by first | rfl | (simp; done) | (simp [*]; done)), H', ⟨by have := HJ1.out; have := HK2.out; have := HJ11.out; first | omega | exact Nat.le_refl _⟩, ⟨by (with_reducible repeat (first | apply Kd.R_alloc | apply Kd.R_drewN | apply Kd.R_drew)); exact HO_4.out⟩, ⟨by (with_reducible repeat (first | apply Kd.R_alloc | apply Kd.R_drewN | apply Kd.R_drew)); exact HO_18.out⟩, ⟨by repeat (first | (with_reducible first | exact HB.out | apply below_alloc | apply pw_below_drewN | apply below_drew1) | exact HB.out)⟩⟩
                      case rest =>
                        clear HC15
                        try clear c1
                        try clear p1
                        try clear q1
                        try clear hx1
                        try clear c2
                        try clear p2
                        try clear c3
                        try clear c3b0
                        try clear c3b1
                        try clear c4
                        try clear c4b0
                        try clear c4b1
                        try clear p5
                        try clear q5
                        try clear hx5
                        try clear qi5
                        try clear p6
                        try clear c9
                        try clear c9b0
                        try clear c10
                        try clear c10b0
                        try clear c11
                        try clear c11b0
                        try clear p11
                        try clear q11
                        try clear hx11
                        try clear c13
                        try clear c13b0
                        try clear c13b1
                        try clear c14
                        try clear c16
                        try clear c16b0
                        try clear c16b1
                        try clear c17
                        try clear c17b0
                        try clear c17b1
                        try clear c19
                        try clear c19b0
                        try clear c20
                        try clear c20b0
                        try clear hx114_0
                        try clear hx115_0
                        try clear p1
                        try clear p11
                        try clear p114
                        try clear p115
                        try clear p2
                        try clear p5
                        try clear q1
                        try clear q11
                        try clear q114
                        try clear q115
                        try clear q5
                        obtain ⟨kq, x35_14, rfl, HA, HJ14, HO_4, HO_18, HB⟩ := hcut
                        cases kq with
                        | zero => exact absurd HA.out (by simp [spec_PathClean.j3])
                        | succ kj14 =>
                          have H := HA.out
                          clear HA
                          simp only [spec_PathClean.j3] at H
                          by_cases c23 : x35_14 = true
                          · subst c23
                            have H1 : (if 0 ≤ (wrap64 ((x4_2.length : Int) - 1)) then (if (wrap64 ((x4_2.length : Int) - 1)) ≤ (x4_2.length : Int) then (spec_PathClean.l0 kj14 x3_1 (x4_2.take ((wrap64 ((x4_2.length : Int) - 1)) : Int).toNat) t111 (t111.length : Int) (wrap64 (x20_2 + 1))) else (none)) else (none)) = some r := by rw [if_pos rfl] at H; exact H
                            clear H
                            have H := H1
                            clear H1
                            obtain ⟨ji24, hji24⟩ : ∃ j_ : Int, (wrap64 ((x4_2.length : Int) - 1)) = j_ := ⟨_, rfl⟩
                            replace H : (if 0 ≤ (ji24) then (if (ji24) ≤ (x4_2.length : Int) then (spec_PathClean.l0 kj14 x3_1 (x4_2.take ((ji24) : Int).toNat) t111 (t111.length : Int) (wrap64 (x20_2 + 1))) else (none)) else (none)) = some r := by first | (rw [hji24] at H; exact H) | (simp only [hji24] at H ⊢; exact H)
                            have hji24w : (IntKind.i64.wrap ((x4_2.length : Int) - 1)) = ji24 := (i64_w _).trans hji24
                            by_cases c25 : 0 ≤ (ji24)
                            · rw [if_pos c25] at H
                              have c25b0 := eq_true c25
                              have c25b1 : decide (0 ≤ (ji24)) = true := decide_eq_true c25
                              clear c25
                              by_cases c26 : (ji24) ≤ (x4_2.length : Int)
                              · rw [if_pos c26] at H
                                have c26b0 := eq_true c26
                                have c26b1 : decide ((ji24) ≤ (x4_2.length : Int)) = true := decide_eq_true c26
                                clear c26
                                obtain ⟨y116, hy116⟩ : ∃ y_ : List ByteArray, y_ = (x4_2.take ((ji24) : Int).toNat) := ⟨_, rfl⟩
                                replace H : (spec_PathClean.l0 kj14 x3_1 y116 t111 (t111.length : Int) (wrap64 (x20_2 + 1))) = some r := by first | (rw [hy116]; with_reducible exact H) | (have H2_ := (Option.bind_some _ _).symm.trans H; rw [hy116]; with_reducible exact H2_) | (have H2_ := (Option.bind_some _ _).symm.trans H; with_reducible exact H2_) | with_reducible exact H | (rw [hy116]; exact H) | exact H
                                have Ny116 := Aside0.mk hy116
                                clear hy116
                                have H' := Aside0.mk H
                                clear H
                                obtain ⟨Ao27, co27, eo27⟩ := Kd.R_slice HO_4.out
                                subst eo27
                                have q28 : ((ji24) : Int) ≤ ((x4_2.length : Int) : Int) := of_decide_eq_true (by first | (with_reducible assumption) | assumption)
                                obtain ⟨i028, hi028, _, hsz28, _⟩ := info_parts info9
                                have hcut28 := cut_to (P := Try.prog) 65 9 .i64 Try.underlying65 hi028 Ao27 x4_2.length co27 (ji24) (of_decide_eq_true (by first | (with_reducible assumption) | assumption)) q28 (Kd.R_reads' HO_4.out).2.1
                                have hr28 := Kd.R_take (m := ((ji24) : Int).toNat) HO_4.out (by omega)
                                have hy28 : y116.length = ((ji24) : Int).toNat := (by rw [Ny116.out, List.length_take]; omega)
                                rw [← Ny116.out] at hr28
                                rw [← hy28] at hr28 hcut28
                                clear hy28 hi028 hsz28 HO_4
                                have HO118 := Aside0.mk hr28
                                clear hr28
                                replace q28 := eq_true q28
                                go_wp2
                                go_roundg kj14
                                case measure => have := HJ1.out; have := HK2.out; have := HJ11.out; have := HJ14.out; omega
                                case rel => exact ⟨(y116), (wrap64 (x20_2 + 1)), (by first | rfl | (simp; done) | (simp [*]; done)), H', ⟨by have := HJ1.out; have := HK2.out; have := HJ11.out; have := HJ14.out; omega⟩, ⟨by (with_reducible repeat (first | apply Kd.R_alloc | apply Kd.R_drewN | apply Kd.R_drew)); exact HO118.out⟩, ⟨by (with_reducible repeat (first | apply Kd.R_alloc | apply Kd.R_drewN | apply Kd.R_drew)); (first | exact HO_18.out | (cases Ao27 <;> exact HO_18.out))⟩, ⟨by repeat (first | (with_reducible first | exact HB.out | apply below_alloc | apply pw_below_drewN | apply below_drew1) | exact HB.out)⟩⟩
                              · rw [if_neg c26] at H
                                exact absurd H (by simp)
                            · rw [if_neg c25] at H
                              exact absurd H (by simp)
                          · replace c23 := Bool.eq_false_iff.mpr c23
                            subst c23
                            have H1 : (if (rdOf ByteArray.empty t111 x20_2).toList = ([46, 46] : List UInt8) then (if x3_1 = true then (spec_PathClean.l0 kj14 x3_1 x4_2 t111 (t111.length : Int) (wrap64 (x20_2 + 1))) else (if x4_2.length < 8796093022208 then (spec_PathClean.l0 kj14 x3_1 (x4_2 ++ [(rdOf ByteArray.empty t111 x20_2)]) t111 (t111.length : Int) (wrap64 (x20_2 + 1))) else (none))) else (if x4_2.length < 8796093022208 then (spec_PathClean.l0 kj14 x3_1 (x4_2 ++ [(rdOf ByteArray.empty t111 x20_2)]) t111 (t111.length : Int) (wrap64 (x20_2 + 1))) else (none))) = some r := by rw [if_neg (show ¬ (false = true) by decide)] at H; exact H
                            clear H
                            have H := H1
                            clear H1
                            by_cases c29 : (rdOf ByteArray.empty t111 x20_2).toList = ([46, 46] : List UInt8)
                            · rw [if_pos c29] at H
                              have c29b0 : ((rdOf ByteArray.empty t111 x20_2).toList == ([46, 46] : List UInt8)) = true := beq_iff_eq.mpr c29
                              have c29b1 : ((rdOf ByteArray.empty t111 x20_2).toList != ([46, 46] : List UInt8)) = false := bne_eq_false_iff_eq.mpr c29
                              clear c29
                              by_cases c30 : x3_1 = true
                              · subst c30
                                have H1 : (spec_PathClean.l0 kj14 true x4_2 t111 (t111.length : Int) (wrap64 (x20_2 + 1))) = some r := by rw [if_pos rfl] at H; exact H
                                clear H
                                have H := H1
                                clear H1
                                have H' := Aside0.mk H
                                clear H
                                go_wp2
                                go_roundg kj14
                                case measure => have := HJ1.out; have := HK2.out; have := HJ11.out; have := HJ14.out; omega
                                case rel => exact ⟨(x4_2), (wrap64 (x20_2 + 1)), (by first | rfl | (simp; done) | (simp [*]; done)), H', ⟨by have := HJ1.out; have := HK2.out; have := HJ11.out; have := HJ14.out; omega⟩, ⟨by (with_reducible repeat (first | apply Kd.R_alloc | apply Kd.R_drewN | apply Kd.R_drew)); exact HO_4.out⟩, ⟨by (with_reducible repeat (first | apply Kd.R_alloc | apply Kd.R_drewN | apply Kd.R_drew)); exact HO_18.out⟩, ⟨by repeat (first | (with_reducible first | exact HB.out | apply below_alloc | apply pw_below_drewN | apply below_drew1) | exact HB.out)⟩⟩
                              · replace c30 := Bool.eq_false_iff.mpr c30
                                subst c30
                                have H1 : (if x4_2.length < 8796093022208 then (spec_PathClean.l0 kj14 false (x4_2 ++ [(rdOf ByteArray.empty t111 x20_2)]) t111 (t111.length : Int) (wrap64 (x20_2 + 1))) else (none)) = some r := by rw [if_neg (show ¬ (false = true) by decide)] at H; exact H
                                clear H
                                have H := H1
                                clear H1
                                by_cases c31 : x4_2.length < 8796093022208
                                · rw [if_pos c31] at H
                                  have LMc31 := Aside0.mk c31
                                  clear c31
                                  obtain ⟨y119, hy119⟩ : ∃ y_ : List ByteArray, y_ = (x4_2 ++ [(rdOf ByteArray.empty t111 x20_2)]) := ⟨_, rfl⟩
                                  replace H : (spec_PathClean.l0 kj14 false y119 t111 (t111.length : Int) (wrap64 (x20_2 + 1))) = some r := by first | (rw [hy119]; with_reducible exact H) | (have H2_ := (Option.bind_some _ _).symm.trans H; rw [hy119]; with_reducible exact H2_) | (have H2_ := (Option.bind_some _ _).symm.trans H; with_reducible exact H2_) | with_reducible exact H | (rw [hy119]; exact H) | exact H
                                  have Ny119 := Aside0.mk hy119
                                  clear hy119
                                  have H' := Aside0.mk H
                                  clear H
                                  go_wp2_with (first | ((with_reducible refine gate_builtin (b := .append) (xs := #[.tmp 24, .tmp 26]) rfl ?_); (try (refine gate_guard (by rfl) ?_; dsimp only)); at_builtin; refine Kd.R_append Kd.string (w0 := w) w.heap.size rfl (.tmp 24) (.tmp 26) 65 9 (.string ⟨#[]⟩) 16 rfl Try.underlying65 info9 rfl (by decide) (by omega) u4 x4_2 (rdOf ByteArray.empty t111 x20_2) [.string (rdOf ByteArray.empty t111 x20_2)] (fun k_ => some k_ ≠ (.slice (some ad114) t111.length co8 : Value).ownBlock) (fun _ => False) rfl rfl ?aP (fun _ hk => hk.elim) ?aF ?aO ?aB ?aS ?aL ?_; (case aP => exact rfl); (case aB => exact (by repeat (first | (with_reducible first | exact HB.out | apply below_alloc | apply pw_below_drewN | apply below_drew1) | exact HB.out))); (case aF => exact (fun k_ hk => Kd.fresh' (Kd.R_lt (by (with_reducible repeat (first | apply Kd.R_alloc | apply Kd.R_drewN | apply Kd.R_drew)); exact HO_18.out)) k_ hk)); (case aO => exact (by (with_reducible repeat (first | apply Kd.R_alloc | apply Kd.R_drewN | apply Kd.R_drew)); exact HO_4.out)); (case aS => exact (below_size (by repeat (first | (with_reducible first | exact HB.out | apply below_alloc | apply pw_below_drewN | apply below_drew1) | exact HB.out)))); (case aL => have := LMc31.out; omega); intro v120 w32 ho hb hg hat; rw [← Ny119.out] at ho; have n0_ := Aside0.mk (Kd.R_after (ok := (fun _ => True)) (by (with_reducible repeat (first | apply Kd.R_alloc | apply Kd.R_drewN | apply Kd.R_drew)); exact Kd.R_mono HO_18.out (fun _ hk => ⟨trivial, hk⟩)) hg hat); have n1_ := Aside0.mk (hb); have n2_ := Aside0.mk (ho); clear HO_18; clear HB; clear HO_4; have HO_18 := n0_; have HB := n1_; have HO121 := n2_; clear n0_ n1_ n2_; clear ho hb hg hat))
                                  go_roundg kj14
                                  case measure => have := HJ1.out; have := HK2.out; have := HJ11.out; have := HJ14.out; omega
                                  case rel => exact ⟨(y119), (wrap64 (x20_2 + 1)), (by first | rfl | (simp; done) | (simp [*]; done)), H', ⟨by have := HJ1.out; have := HK2.out; have := HJ11.out; have := HJ14.out; omega⟩, ⟨by (with_reducible repeat (first | apply Kd.R_alloc | apply Kd.R_drewN | apply Kd.R_drew)); exact HO121.out⟩, ⟨by (with_reducible repeat (first | apply Kd.R_alloc | apply Kd.R_drewN | apply Kd.R_drew)); exact Kd.R_mono HO_18.out (fun _ hk => hk.2)⟩, ⟨by repeat (first | (with_reducible first | exact HB.out | apply below_alloc | apply pw_below_drewN | apply below_drew1) | exact HB.out)⟩⟩
                                · rw [if_neg c31] at H
                                  exact absurd H (by simp)
                            · rw [if_neg c29] at H
                              have c29b0 : ((rdOf ByteArray.empty t111 x20_2).toList == ([46, 46] : List UInt8)) = false := beq_eq_false_iff_ne.mpr c29
                              have c29b1 : ((rdOf ByteArray.empty t111 x20_2).toList != ([46, 46] : List UInt8)) = true := bne_iff_ne.mpr c29
                              by_cases c33 : x4_2.length < 8796093022208
                              · rw [if_pos c33] at H
                                have LMc33 := Aside0.mk c33
                                clear c33
                                obtain ⟨y122, hy122⟩ : ∃ y_ : List ByteArray, y_ = (x4_2 ++ [(rdOf ByteArray.empty t111 x20_2)]) := ⟨_, rfl⟩
                                replace H : (spec_PathClean.l0 kj14 x3_1 y122 t111 (t111.length : Int) (wrap64 (x20_2 + 1))) = some r := by first | (rw [hy122]; with_reducible exact H) | (have H2_ := (Option.bind_some _ _).symm.trans H; rw [hy122]; with_reducible exact H2_) | (have H2_ := (Option.bind_some _ _).symm.trans H; with_reducible exact H2_) | with_reducible exact H | (rw [hy122]; exact H) | exact H
                                have Ny122 := Aside0.mk hy122
                                clear hy122
                                have H' := Aside0.mk H
                                clear H
                                go_wp2_with (first | ((with_reducible refine gate_builtin (b := .append) (xs := #[.tmp 24, .tmp 26]) rfl ?_); (try (refine gate_guard (by rfl) ?_; dsimp only)); at_builtin; refine Kd.R_append Kd.string (w0 := w) w.heap.size rfl (.tmp 24) (.tmp 26) 65 9 (.string ⟨#[]⟩) 16 rfl Try.underlying65 info9 rfl (by decide) (by omega) u4 x4_2 (rdOf ByteArray.empty t111 x20_2) [.string (rdOf ByteArray.empty t111 x20_2)] (fun k_ => some k_ ≠ (.slice (some ad114) t111.length co8 : Value).ownBlock) (fun _ => False) rfl rfl ?aP (fun _ hk => hk.elim) ?aF ?aO ?aB ?aS ?aL ?_; (case aP => exact rfl); (case aB => exact (by repeat (first | (with_reducible first | exact HB.out | apply below_alloc | apply pw_below_drewN | apply below_drew1) | exact HB.out))); (case aF => exact (fun k_ hk => Kd.fresh' (Kd.R_lt (by (with_reducible repeat (first | apply Kd.R_alloc | apply Kd.R_drewN | apply Kd.R_drew)); exact HO_18.out)) k_ hk)); (case aO => exact (by (with_reducible repeat (first | apply Kd.R_alloc | apply Kd.R_drewN | apply Kd.R_drew)); exact HO_4.out)); (case aS => exact (below_size (by repeat (first | (with_reducible first | exact HB.out | apply below_alloc | apply pw_below_drewN | apply below_drew1) | exact HB.out)))); (case aL => have := LMc33.out; omega); intro v123 w34 ho hb hg hat; rw [← Ny122.out] at ho; have n0_ := Aside0.mk (Kd.R_after (ok := (fun _ => True)) (by (with_reducible repeat (first | apply Kd.R_alloc | apply Kd.R_drewN | apply Kd.R_drew)); exact Kd.R_mono HO_18.out (fun _ hk => ⟨trivial, hk⟩)) hg hat); have n1_ := Aside0.mk (hb); have n2_ := Aside0.mk (ho); clear HO_18; clear HB; clear HO_4; have HO_18 := n0_; have HB := n1_; have HO124 := n2_; clear n0_ n1_ n2_; clear ho hb hg hat))
                                go_roundg kj14
                                case measure => have := HJ1.out; have := HK2.out; have := HJ11.out; have := HJ14.out; omega
                                case rel => exact ⟨(y122), (wrap64 (x20_2 + 1)), (by first | rfl | (simp; done) | (simp [*]; done)), H', ⟨by have := HJ1.out; have := HK2.out; have := HJ11.out; have := HJ14.out; omega⟩, ⟨by (with_reducible repeat (first | apply Kd.R_alloc | apply Kd.R_drewN | apply Kd.R_drew)); exact HO124.out⟩, ⟨by (with_reducible repeat (first | apply Kd.R_alloc | apply Kd.R_drewN | apply Kd.R_drew)); exact Kd.R_mono HO_18.out (fun _ hk => hk.2)⟩, ⟨by repeat (first | (with_reducible first | exact HB.out | apply below_alloc | apply pw_below_drewN | apply below_drew1) | exact HB.out)⟩⟩
                              · rw [if_neg c33] at H
                                exact absurd H (by simp)
              · rw [if_neg c11] at H
                exact absurd H (by simp)
            · rw [if_neg c10] at H
              exact absurd H (by simp)
          · rw [if_neg c9] at H
            have c9b0 : decide (x20_2 < (t111.length : Int)) = false := decide_eq_false c9
            clear c9
            have H' := Aside0.mk H
            clear H
            obtain ⟨Ao35, co35, eo35⟩ := Kd.R_slice HO_4.out
            subst eo35
            go_wp2
            go_loopg [7, 66] k2 (fun kq v7 v66 w' => ∃ (x7_3 : ByteArray) (x66_3 : Int), v7 = .string x7_3 ∧ v66 = .int .i64 x66_3 ∧ Aside0 (spec_PathClean.l1 kq x3_1 x7_3 x4_2 (x4_2.length : Int) x66_3 = some r) ∧ Aside0 (kq ≤ k2) ∧ Aside0 (Kd.R Kd.string 9 w' w.heap.size (fun _ => True) (.slice Ao35 x4_2.length co35) x4_2) ∧ Aside0 (Below w.heap.size w w'))
            case atStart => exact ⟨((⟨#[]⟩ : ByteArray)), (0), (by first | rfl | (simp; done) | (simp [*]; done)), (by first | rfl | (simp; done) | (simp [*]; done)), H', ⟨Nat.le_refl _⟩, ⟨by (with_reducible repeat (first | apply Kd.R_alloc | apply Kd.R_drewN | apply Kd.R_drew)); exact Kd.R_mono HO_4.out (fun _ hk => trivial)⟩, ⟨by repeat (first | (with_reducible first | exact HB.out | apply below_alloc | apply pw_below_drewN | apply below_drew1) | exact HB.out)⟩⟩
            case round =>
              clear H'
              try clear c1
              try clear p1
              try clear q1
              try clear hx1
              try clear c2
              try clear p2
              try clear q2
              try clear c3
              try clear c3b0
              try clear c3b1
              try clear c4
              try clear c4b0
              try clear c4b1
              try clear p5
              try clear q5
              try clear hx5
              try clear qi5
              try clear p6
              try clear c9
              try clear c9b0
              try clear c10
              try clear c10b0
              try clear c11
              try clear c11b0
              try clear p11
              try clear q11
              try clear hx11
              try clear c13
              try clear c13b0
              try clear c13b1
              try clear c14
              try clear c16
              try clear c16b0
              try clear c16b1
              try clear c17
              try clear c17b0
              try clear c17b1
              try clear c19
              try clear c19b0
              try clear c20
              try clear c20b0
              try clear c23
              try clear c25
              try clear c25b0
              try clear c25b1
              try clear c26
              try clear c26b0
              try clear c26b1
              try clear q28
              try clear c29
              try clear c29b0
              try clear c29b1
              try clear c30
              try clear c31
              try clear c33
              try clear hx114_0
              try clear hx115_0
              try clear p1
              try clear p11
              try clear p114
              try clear p115
              try clear p2
              try clear p5
              try clear p6
              try clear q1
              try clear q11
              try clear q114
              try clear q115
              try clear q28
              try clear q5
              obtain ⟨x7_3, x66_3, rfl, rfl, HA, HK3, HO_64, HB⟩ := hrel
              cases gk with
              | zero => exact absurd HA.out (by simp [spec_PathClean.l1])
              | succ k3 =>
                have H := HA.out
                clear HA
                simp only [spec_PathClean.l1] at H
                by_cases c36 : x66_3 < (x4_2.length : Int)
                · rw [if_pos c36] at H
                  have c36b0 : decide (x66_3 < (x4_2.length : Int)) = true := decide_eq_true c36
                  clear c36
                  by_cases c37 : 0 ≤ x66_3
                  · rw [if_pos c37] at H
                    have c37b0 : decide (0 ≤ x66_3) = true := decide_eq_true c37
                    clear c37
                    by_cases c38 : x66_3 < (x4_2.length : Int)
                    · rw [if_pos c38] at H
                      have c38b0 : decide (x66_3 < (x4_2.length : Int)) = true := decide_eq_true c38
                      clear c38
                      by_cases c39 : x66_3 > 0
                      · rw [if_pos c39] at H
                        have c39b0 : decide (0 < x66_3) = true := decide_eq_true c39
                        clear c39
                        by_cases c40 : x7_3.size + 1 ≤ 9223372036854775807
                        · rw [if_pos c40] at H
                          have c40b0 := eq_true c40
                          have c40b1 : decide (x7_3.size + 1 ≤ 9223372036854775807) = true := decide_eq_true c40
                          try have c40b2 : (9223372036854775807 < x7_3.size + 1) = False := eq_false (Nat.not_lt.2 c40)
                          by_cases c41 : (x7_3 ++ (⟨#[47]⟩ : ByteArray)).size + (rdOf ByteArray.empty x4_2 x66_3).size ≤ 9223372036854775807
                          · rw [if_pos c41] at H
                            have c41b0 := eq_true c41
                            have c41b1 : decide ((x7_3 ++ (⟨#[47]⟩ : ByteArray)).size + (rdOf ByteArray.empty x4_2 x66_3).size ≤ 9223372036854775807) = true := decide_eq_true c41
                            try have c41b2 : (9223372036854775807 < (x7_3 ++ (⟨#[47]⟩ : ByteArray)).size + (rdOf ByteArray.empty x4_2 x66_3).size) = False := eq_false (Nat.not_lt.2 c41)
                            have H' := Aside0.mk H
                            clear H
                            have p125 : 0 ≤ (x66_3 : Int) := of_decide_eq_true (by first | (with_reducible assumption) | assumption)
                            have q125 : x66_3 < (x4_2.length : Int) := of_decide_eq_true (by first | (with_reducible assumption) | assumption)
                            obtain ⟨ad125, e125, hx125_0⟩ := Kd.at_string (Kd.R_reads' HO_64.out).2.2 x66_3 p125 q125
                            cases e125
                            replace p125 := eq_true p125
                            replace q125 := eq_true q125
                            go_wp2
                            go_roundg k3
                            case measure => have := HJ1.out; have := HK2.out; have := HK3.out; omega
                            case rel => exact ⟨((x7_3 ++ (⟨#[47]⟩ : ByteArray)) ++ (rdOf ByteArray.empty x4_2 x66_3)), (wrap64 (x66_3 + 1)), (by first | rfl | (simp; done) | (simp [*]; done)), (by first | rfl | (simp; done) | (simp [*]; done)), H', ⟨by have := HJ1.out; have := HK2.out; have := HK3.out; omega⟩, ⟨by (with_reducible repeat (first | apply Kd.R_alloc | apply Kd.R_drewN | apply Kd.R_drew)); exact HO_64.out⟩, ⟨by repeat (first | (with_reducible first | exact HB.out | apply below_alloc | apply pw_below_drewN | apply below_drew1) | exact HB.out)⟩⟩
                          · rw [if_neg c41] at H
                            exact absurd H (by simp)
                        · rw [if_neg c40] at H
                          exact absurd H (by simp)
                      · rw [if_neg c39] at H
                        have c39b0 : decide (0 < x66_3) = false := decide_eq_false c39
                        clear c39
                        by_cases c42 : x7_3.size + (rdOf ByteArray.empty x4_2 x66_3).size ≤ 9223372036854775807
                        · rw [if_pos c42] at H
                          have c42b0 := eq_true c42
                          have c42b1 : decide (x7_3.size + (rdOf ByteArray.empty x4_2 x66_3).size ≤ 9223372036854775807) = true := decide_eq_true c42
                          try have c42b2 : (9223372036854775807 < x7_3.size + (rdOf ByteArray.empty x4_2 x66_3).size) = False := eq_false (Nat.not_lt.2 c42)
                          have H' := Aside0.mk H
                          clear H
                          have p125 : 0 ≤ (x66_3 : Int) := of_decide_eq_true (by first | (with_reducible assumption) | assumption)
                          have q125 : x66_3 < (x4_2.length : Int) := of_decide_eq_true (by first | (with_reducible assumption) | assumption)
                          obtain ⟨ad125, e125, hx125_0⟩ := Kd.at_string (Kd.R_reads' HO_64.out).2.2 x66_3 p125 q125
                          cases e125
                          replace p125 := eq_true p125
                          replace q125 := eq_true q125
                          go_wp2
                          go_roundg k3
                          case measure => have := HJ1.out; have := HK2.out; have := HK3.out; omega
                          case rel => exact ⟨(x7_3 ++ (rdOf ByteArray.empty x4_2 x66_3)), (wrap64 (x66_3 + 1)), (by first | rfl | (simp; done) | (simp [*]; done)), (by first | rfl | (simp; done) | (simp [*]; done)), H', ⟨by have := HJ1.out; have := HK2.out; have := HK3.out; omega⟩, ⟨by (with_reducible repeat (first | apply Kd.R_alloc | apply Kd.R_drewN | apply Kd.R_drew)); exact HO_64.out⟩, ⟨by repeat (first | (with_reducible first | exact HB.out | apply below_alloc | apply pw_below_drewN | apply below_drew1) | exact HB.out)⟩⟩
                        · rw [if_neg c42] at H
                          exact absurd H (by simp)
                    · rw [if_neg c38] at H
                      exact absurd H (by simp)
                  · rw [if_neg c37] at H
                    exact absurd H (by simp)
                · rw [if_neg c36] at H
                  have c36b0 : decide (x66_3 < (x4_2.length : Int)) = false := decide_eq_false c36
                  clear c36
                  by_cases c43 : x3_1 = true
                  · subst c43
                    have H1 : (if 1 + x7_3.size ≤ 9223372036854775807 then (some ((⟨#[47]⟩ : ByteArray) ++ x7_3)) else (none)) = some r := by rw [if_pos rfl] at H; exact H
                    clear H
                    have H := H1
                    clear H1
                    by_cases c44 : 1 + x7_3.size ≤ 9223372036854775807
                    · rw [if_pos c44] at H
                      have c44b0 := eq_true c44
                      have c44b1 : decide (1 + x7_3.size ≤ 9223372036854775807) = true := decide_eq_true c44
                      try have c44b2 : (9223372036854775807 < 1 + x7_3.size) = False := eq_false (Nat.not_lt.2 c44)
                      obtain rfl := Option.some.inj H
                      go_wp2
                      go_ret
                      exact ⟨by first | rfl | (simp [errW_none, errW_some] <;> rfl) | (simp [*, errW_none, errW_some] <;> rfl), by repeat (first | (with_reducible first | exact HB.out | apply below_alloc | apply pw_below_drewN | apply below_drew1) | exact HB.out)⟩
                    · rw [if_neg c44] at H
                      exact absurd H (by simp)
                  · replace c43 := Bool.eq_false_iff.mpr c43
                    subst c43
                    have H1 : (if x7_3.toList = ([] : List UInt8) then (some (⟨#[46]⟩ : ByteArray)) else (some x7_3)) = some r := by rw [if_neg (show ¬ (false = true) by decide)] at H; exact H
                    clear H
                    have H := H1
                    clear H1
                    by_cases c45 : x7_3.toList = ([] : List UInt8)
                    · rw [if_pos c45] at H
                      have c45b0 : (x7_3.toList == ([] : List UInt8)) = true := beq_iff_eq.mpr c45
                      have c45b1 : (x7_3.toList != ([] : List UInt8)) = false := bne_eq_false_iff_eq.mpr c45
                      clear c45
                      obtain rfl := Option.some.inj H
                      go_wp2
                      go_ret
                      exact ⟨by first | rfl | (simp [errW_none, errW_some] <;> rfl) | (simp [*, errW_none, errW_some] <;> rfl), by repeat (first | (with_reducible first | exact HB.out | apply below_alloc | apply pw_below_drewN | apply below_drew1) | exact HB.out)⟩
                    · rw [if_neg c45] at H
                      have c45b0 : (x7_3.toList == ([] : List UInt8)) = false := beq_eq_false_iff_ne.mpr c45
                      have c45b1 : (x7_3.toList != ([] : List UInt8)) = true := bne_iff_ne.mpr c45
                      obtain rfl := Option.some.inj H
                      go_wp2
                      go_ret
                      exact ⟨by first | rfl | (simp [errW_none, errW_some] <;> rfl) | (simp [*, errW_none, errW_some] <;> rfl), by repeat (first | (with_reducible first | exact HB.out | apply below_alloc | apply pw_below_drewN | apply below_drew1) | exact HB.out)⟩

end Go.Proofs.Ytkdmdoflfaldiaa.PT
