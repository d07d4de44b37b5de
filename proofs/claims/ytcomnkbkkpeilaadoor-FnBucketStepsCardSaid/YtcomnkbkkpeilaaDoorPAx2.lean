-- Written by a program of this session.
import Derived.Test.YtcomnkbkkpeilaaDoorPAx0
import Derived.Test.YtcomnkbkkpeilaaDoorPAx1
namespace Go.Proofs.YtcomnkbkkpeilaaDoor.PA
open Go.RowKit Go.Proofs.YtcomnkbkkpeilaaDoorW.PrintWords Go.Proofs.YtcomnkbkkpeilaaDoorW.PrintLast Go.Proofs.YtcomnkbkkpeilaaDoorW.PrintMore Go.Proofs.YtcomnkbkkpeilaaDoor.Given
attribute [local go_sem] max2_int min2_int max_two min_two max_three min_three max_four min_four   -- for this text's walks alone
set_option linter.unusedVariables false
set_option linter.unusedSimpArgs false

attribute [local go_sem high] eqA30
/-! ### laws_zzFits2: function 11 -/
def laws_zzFits2.f (a0_0 : Int) (a0_1 : ByteArray) (a0_2 : Bool) (a0_3 : Bool) (a0_4 : Bool) (a0_5 : Bool) : Option (Bool) := if (a0_1.size : Int) > 2147483647 then (some false) else (some true)
set_option maxHeartbeats 8000000 in
set_option maxRecDepth 100000 in
theorem laws_zzFits2.calls (a0_0 : Int) (a0_1 : ByteArray) (a0_2 : Bool) (a0_3 : Bool) (a0_4 : Bool) (a0_5 : Bool) (r : Bool) (w : World) (h : laws_zzFits2.f a0_0 a0_1 a0_2 a0_3 a0_4 a0_5 = some r) :
    Calls Tryd.prog 11 #[.agg #[.int .i64 a0_0, .string a0_1, .bool a0_2, .bool a0_3, .bool a0_4, .bool a0_5]] w fun e w' => e = .returned (.bool r) ∧ Below w.heap.size w w' := by
  have hu28 := Tryd.underlying28
  have HB := Aside0.mk (Below.refl w.heap.size w)
  have H : (if (a0_1.size : Int) > 2147483647 then (some false) else (some true)) = some r := h
  clear h
  by_cases c2 : (a0_1.size : Int) > 2147483647
  · rw [if_pos c2] at H
    have c2b0 : decide (2147483647 < (a0_1.size : Int)) = true := decide_eq_true c2
    have c2b1 : decide (2147483647 < a0_1.size) = true := decide_eq_true (by omega)
    clear c2
    obtain rfl := Option.some.inj H
    go_enter Tryd.func11, Tryd.ntmps11
    go_wp2_with (first | ((with_reducible refine gate_dst (N := 1) rfl ?_); refine box_event ?hg (N := 1) ?hd (cs := #[.int .i64 a0_0, .string a0_1, .bool a0_2, .bool a0_3, .bool a0_4, .bool a0_5]) (t := 28) ?hr ?_; (case hd => rfl); (case hg => rfl); (case hr => first | (go_simp; done) | (go_simp; rfl)); intro gb101 hg w3 hbox hb; have n0_ := Aside0.mk (below_step (by repeat (first | (with_reducible first | exact HB.out | apply below_alloc | apply pw_below_drewN | apply below_drew1) | exact HB.out)) hb); have n1_ := Aside0.mk (hbox); have n2_ := Aside0.mk ((by rw [hg]; exact (below_size (by repeat (first | (with_reducible first | exact HB.out | apply below_alloc | apply pw_below_drewN | apply below_drew1) | exact HB.out))) : w.heap.size ≤ gb101)); have n3_ := Aside0.mk ((by rw [hg]; exact (below_size (by repeat (first | (with_reducible first | exact HB.out | apply below_alloc | apply pw_below_drewN | apply below_drew1) | exact HB.out))) : w.heap.size ≤ gb101)); clear HB; have HB := n0_; have BK101 := n1_; have GW101 := n2_; have GE101 := n3_; clear n0_ n1_ n2_ n3_; clear hb hbox hg; have hcz4_0 : w3.cell? ⟨gb101, 0, none⟩ = some (.int .i64 a0_0) := (blk_cell BK101.out 0).trans rfl; have hcz4_1 : w3.cell? ⟨gb101, 1, none⟩ = some (.string a0_1) := (blk_cell BK101.out 1).trans rfl; have hcz4_2 : w3.cell? ⟨gb101, 2, none⟩ = some (.bool a0_2) := (blk_cell BK101.out 2).trans rfl; have hcz4_3 : w3.cell? ⟨gb101, 3, none⟩ = some (.bool a0_3) := (blk_cell BK101.out 3).trans rfl; have hcz4_4 : w3.cell? ⟨gb101, 4, none⟩ = some (.bool a0_4) := (blk_cell BK101.out 4).trans rfl; have hcz4_5 : w3.cell? ⟨gb101, 5, none⟩ = some (.bool a0_5) := (blk_cell BK101.out 5).trans rfl; have hfz4_0 := blk_frozen BK101.out 0; have hfz4_1 := blk_frozen BK101.out 1; have hfz4_2 := blk_frozen BK101.out 2; have hfz4_3 := blk_frozen BK101.out 3; have hfz4_4 := blk_frozen BK101.out 4; have hfz4_5 := blk_frozen BK101.out 5))
    go_ret
    exact ⟨by first | rfl | (simp [errW_none, errW_some] <;> rfl) | (simp [*, errW_none, errW_some] <;> rfl), by repeat (first | (with_reducible first | exact HB.out | apply below_alloc | apply pw_below_drewN | apply below_drew1 | refine below_set ?_ GE101.out) | exact HB.out)⟩
  · rw [if_neg c2] at H
    have c2b0 : decide (2147483647 < (a0_1.size : Int)) = false := decide_eq_false c2
    have c2b1 : decide (2147483647 < a0_1.size) = false := decide_eq_false (by omega)
    clear c2
    obtain rfl := Option.some.inj H
    go_enter Tryd.func11, Tryd.ntmps11
    go_wp2_with (first | ((with_reducible refine gate_dst (N := 1) rfl ?_); refine box_event ?hg (N := 1) ?hd (cs := #[.int .i64 a0_0, .string a0_1, .bool a0_2, .bool a0_3, .bool a0_4, .bool a0_5]) (t := 28) ?hr ?_; (case hd => rfl); (case hg => rfl); (case hr => first | (go_simp; done) | (go_simp; rfl)); intro gb101 hg w5 hbox hb; have n0_ := Aside0.mk (below_step (by repeat (first | (with_reducible first | exact HB.out | apply below_alloc | apply pw_below_drewN | apply below_drew1) | exact HB.out)) hb); have n1_ := Aside0.mk (hbox); have n2_ := Aside0.mk ((by rw [hg]; exact (below_size (by repeat (first | (with_reducible first | exact HB.out | apply below_alloc | apply pw_below_drewN | apply below_drew1) | exact HB.out))) : w.heap.size ≤ gb101)); have n3_ := Aside0.mk ((by rw [hg]; exact (below_size (by repeat (first | (with_reducible first | exact HB.out | apply below_alloc | apply pw_below_drewN | apply below_drew1) | exact HB.out))) : w.heap.size ≤ gb101)); clear HB; have HB := n0_; have BK101 := n1_; have GW101 := n2_; have GE101 := n3_; clear n0_ n1_ n2_ n3_; clear hb hbox hg; have hcz6_0 : w5.cell? ⟨gb101, 0, none⟩ = some (.int .i64 a0_0) := (blk_cell BK101.out 0).trans rfl; have hcz6_1 : w5.cell? ⟨gb101, 1, none⟩ = some (.string a0_1) := (blk_cell BK101.out 1).trans rfl; have hcz6_2 : w5.cell? ⟨gb101, 2, none⟩ = some (.bool a0_2) := (blk_cell BK101.out 2).trans rfl; have hcz6_3 : w5.cell? ⟨gb101, 3, none⟩ = some (.bool a0_3) := (blk_cell BK101.out 3).trans rfl; have hcz6_4 : w5.cell? ⟨gb101, 4, none⟩ = some (.bool a0_4) := (blk_cell BK101.out 4).trans rfl; have hcz6_5 : w5.cell? ⟨gb101, 5, none⟩ = some (.bool a0_5) := (blk_cell BK101.out 5).trans rfl; have hfz6_0 := blk_frozen BK101.out 0; have hfz6_1 := blk_frozen BK101.out 1; have hfz6_2 := blk_frozen BK101.out 2; have hfz6_3 := blk_frozen BK101.out 3; have hfz6_4 := blk_frozen BK101.out 4; have hfz6_5 := blk_frozen BK101.out 5))
    go_ret
    exact ⟨by first | rfl | (simp [errW_none, errW_some] <;> rfl) | (simp [*, errW_none, errW_some] <;> rfl), by repeat (first | (with_reducible first | exact HB.out | apply below_alloc | apply pw_below_drewN | apply below_drew1 | refine below_set ?_ GE101.out) | exact HB.out)⟩

/-! ### laws_zzFits1: function 5 -/
def laws_zzFits1.l0 : Nat → List (S28) → Int → Int → Option (Bool)
  | 0, _, _, _ => none
  | k + 1, x8, x9, x10 => if x10 < x9 then (if 0 ≤ x10 then (if x10 < (x8.length : Int) then ((laws_zzFits2.f ((rd_T28 x8 x10).f0) ((rd_T28 x8 x10).f1) ((rd_T28 x8 x10).f2) ((rd_T28 x8 x10).f3) ((rd_T28 x8 x10).f4) ((rd_T28 x8 x10).f5)).bind fun t104 => (if t104 = true then (laws_zzFits1.l0 k x8 x9 (wrap64 (x10 + 1))) else (some false))) else (none)) else (none)) else (some true)
def laws_zzFits1.f (k : Nat) (l0 : List (S28)) : Option (Bool) := if (l0.length : Int) > 2147483647 then (some false) else (laws_zzFits1.l0 k l0 (l0.length : Int) 0)
theorem laws_zzFits1.mono_l : ∀ k, (∀ y0 y1 y2, LeO (laws_zzFits1.l0 k y0 y1 y2) (laws_zzFits1.l0 (k + 1) y0 y1 y2))
  | 0 => fun _ _ _ r h => by simp [laws_zzFits1.l0] at h
  | k + 1 => by
    have ih0 := laws_zzFits1.mono_l k
    · intro y0 y1 y2
      unfold laws_zzFits1.l0
      repeat' first
      | (with_reducible exact ih0 _ _ _)
      | (with_reducible exact LeO.refl _)
      | (with_reducible exact LeO.none _)
      | (with_reducible refine LeO.ite ?_ ?_)
      | (with_reducible refine LeO.bind ?_ (fun _ => ?_))
      | exact ih0 _ _ _
      | exact LeO.none _
      | refine LeO.ite ?_ ?_
      | refine LeO.bind ?_ (fun _ => ?_)
theorem laws_zzFits1.mono : ∀ a0 k, LeO (laws_zzFits1.f k a0) (laws_zzFits1.f (k + 1) a0) := by
  intro a0 k
  have ih0 := laws_zzFits1.mono_l k
  unfold laws_zzFits1.f
  repeat' first
      | (with_reducible exact ih0 _ _ _)
      | (with_reducible exact LeO.refl _)
      | (with_reducible exact LeO.none _)
      | (with_reducible refine LeO.ite ?_ ?_)
      | (with_reducible refine LeO.bind ?_ (fun _ => ?_))
      | exact ih0 _ _ _
      | exact LeO.none _
      | refine LeO.ite ?_ ?_
      | refine LeO.bind ?_ (fun _ => ?_)
set_option maxHeartbeats 8000000 in
set_option maxRecDepth 100000 in
theorem laws_zzFits1.calls (k : Nat) (A0 : Option Addr) (c0 : Nat) (l0 : List (S28)) (r : Bool) (w : World) (hr0 : Kd.C k28 w A0 l0.length l0) (hc0 : l0.length ≤ c0) (h : laws_zzFits1.f k l0 = some r) :
    Calls Tryd.prog 5 #[.slice A0 l0.length c0] w fun e w' => e = .returned (.bool r) ∧ Below w.heap.size w w' := by
  have hu28 := Tryd.underlying28
  have HR0 := Aside0.mk hr0
  have HC0 := Aside0.mk hc0
  clear hr0 hc0
  have HB := Aside0.mk (Below.refl w.heap.size w)
  have H : (if (l0.length : Int) > 2147483647 then (some false) else (laws_zzFits1.l0 k l0 (l0.length : Int) 0)) = some r := h
  clear h
  by_cases c2 : (l0.length : Int) > 2147483647
  · rw [if_pos c2] at H
    have c2b0 : decide (2147483647 < (l0.length : Int)) = true := decide_eq_true c2
    have c2b1 : decide (2147483647 < l0.length) = true := decide_eq_true (by omega)
    clear c2
    obtain rfl := Option.some.inj H
    go_enter Tryd.func5, Tryd.ntmps5
    go_wp2
    go_ret
    exact ⟨by first | rfl | (simp [errW_none, errW_some] <;> rfl) | (simp [*, errW_none, errW_some] <;> rfl), by repeat (first | (with_reducible first | exact HB.out | apply below_alloc | apply pw_below_drewN | apply below_drew1) | exact HB.out)⟩
  · rw [if_neg c2] at H
    have c2b0 : decide (2147483647 < (l0.length : Int)) = false := decide_eq_false c2
    have c2b1 : decide (2147483647 < l0.length) = false := decide_eq_false (by omega)
    clear c2
    have H' := Aside0.mk H
    clear H
    go_enter Tryd.func5, Tryd.ntmps5
    go_wp2
    go_loopg [10] k (fun kq v10 w' => ∃ (x10_1 : Int), v10 = .int .i64 x10_1 ∧ Aside0 (laws_zzFits1.l0 kq l0 (l0.length : Int) x10_1 = some r) ∧ Aside0 (kq ≤ k) ∧ Aside0 (Below w.heap.size w w'))
    case atStart => exact ⟨(0), (by first | rfl | (simp; done) | (simp [*]; done)), H', ⟨Nat.le_refl _⟩, ⟨by repeat (first | (with_reducible first | exact HB.out | apply below_alloc | apply pw_below_drewN | apply below_drew1) | exact HB.out)⟩⟩
    case round =>
      clear H'
      try clear c2
      try clear c2b0
      try clear c2b1
      try clear p2
      obtain ⟨x10_1, rfl, HA, HK1, HB⟩ := hrel
      cases gk with
      | zero => exact absurd HA.out (by simp [laws_zzFits1.l0])
      | succ k1 =>
        have H := HA.out
        clear HA
        simp only [laws_zzFits1.l0] at H
        by_cases c3 : x10_1 < (l0.length : Int)
        · rw [if_pos c3] at H
          have c3b0 : decide (x10_1 < (l0.length : Int)) = true := decide_eq_true c3
          clear c3
          by_cases c4 : 0 ≤ x10_1
          · rw [if_pos c4] at H
            have c4b0 : decide (0 ≤ x10_1) = true := decide_eq_true c4
            clear c4
            by_cases c5 : x10_1 < (l0.length : Int)
            · rw [if_pos c5] at H
              have c5b0 : decide (x10_1 < (l0.length : Int)) = true := decide_eq_true c5
              clear c5
              replace H := Option.bind_eq_some_iff.mp H
              obtain ⟨t104, A60, H⟩ := H
              replace H : (if t104 = true then (laws_zzFits1.l0 k1 l0 (l0.length : Int) (wrap64 (x10_1 + 1))) else (some false)) = some r := H
              have A6 := Aside0.mk A60
              clear A60
              by_cases c7 : t104 = true
              · subst c7
                have H1 : (laws_zzFits1.l0 k1 l0 (l0.length : Int) (wrap64 (x10_1 + 1))) = some r := by rw [if_pos rfl] at H; exact H
                clear H
                have H := H1
                clear H1
                have H' := Aside0.mk H
                clear H
                have p102 : 0 ≤ (x10_1 : Int) := of_decide_eq_true (by first | (with_reducible assumption) | assumption)
                have q102 : x10_1 < (l0.length : Int) := of_decide_eq_true (by first | (with_reducible assumption) | assumption)
                obtain ⟨ad102, e102, hx102_0, hx102_1, hx102_2, hx102_3, hx102_4, hx102_5⟩ := at_T28 HR0.out x10_1 p102 q102
                cases e102
                replace hx102_0 := (HB.out.cell (World.block_lt_of_cell? w _ hx102_0)).trans hx102_0
                replace hx102_1 := (HB.out.cell (World.block_lt_of_cell? w _ hx102_1)).trans hx102_1
                replace hx102_2 := (HB.out.cell (World.block_lt_of_cell? w _ hx102_2)).trans hx102_2
                replace hx102_3 := (HB.out.cell (World.block_lt_of_cell? w _ hx102_3)).trans hx102_3
                replace hx102_4 := (HB.out.cell (World.block_lt_of_cell? w _ hx102_4)).trans hx102_4
                replace hx102_5 := (HB.out.cell (World.block_lt_of_cell? w _ hx102_5)).trans hx102_5
                replace p102 := eq_true p102
                replace q102 := eq_true q102
                go_wp2_with (first | ((with_reducible refine gate_dst (N := 4) rfl ?_); refine box_event ?hg (N := 4) ?hd (cs := #[.int .i64 0, .string (⟨#[]⟩ : ByteArray), .bool false, .bool false, .bool false, .bool false]) (t := 28) ?hr ?_; (case hd => rfl); (case hg => rfl); (case hr => first | (go_simp; done) | (go_simp; rfl)); intro gb103 hg w8 hbox hb; have n0_ := Aside0.mk (below_step (by repeat (first | (with_reducible first | exact HB.out | apply below_alloc | apply pw_below_drewN | apply below_drew1) | exact HB.out)) hb); have n1_ := Aside0.mk (hbox); have n2_ := Aside0.mk ((by rw [hg]; exact (below_size (by repeat (first | (with_reducible first | exact HB.out | apply below_alloc | apply pw_below_drewN | apply below_drew1) | exact HB.out))) : w.heap.size ≤ gb103)); have n3_ := Aside0.mk ((by rw [hg]; exact (below_size (by repeat (first | (with_reducible first | exact HB.out | apply below_alloc | apply pw_below_drewN | apply below_drew1) | exact HB.out))) : w.heap.size ≤ gb103)); clear HB; have HB := n0_; have BK103 := n1_; have GW103 := n2_; have GE103 := n3_; clear n0_ n1_ n2_ n3_; clear hb hbox hg; have hcz9_0 : w8.cell? ⟨gb103, 0, none⟩ = some (.int .i64 0) := (blk_cell BK103.out 0).trans rfl; have hcz9_1 : w8.cell? ⟨gb103, 1, none⟩ = some (.string (⟨#[]⟩ : ByteArray)) := (blk_cell BK103.out 1).trans rfl; have hcz9_2 : w8.cell? ⟨gb103, 2, none⟩ = some (.bool false) := (blk_cell BK103.out 2).trans rfl; have hcz9_3 : w8.cell? ⟨gb103, 3, none⟩ = some (.bool false) := (blk_cell BK103.out 3).trans rfl; have hcz9_4 : w8.cell? ⟨gb103, 4, none⟩ = some (.bool false) := (blk_cell BK103.out 4).trans rfl; have hcz9_5 : w8.cell? ⟨gb103, 5, none⟩ = some (.bool false) := (blk_cell BK103.out 5).trans rfl; have hfz9_0 := blk_frozen BK103.out 0; have hfz9_1 := blk_frozen BK103.out 1; have hfz9_2 := blk_frozen BK103.out 2; have hfz9_3 := blk_frozen BK103.out 3; have hfz9_4 := blk_frozen BK103.out 4; have hfz9_5 := blk_frozen BK103.out 5) | ((with_reducible refine gate_callee (f := 11) rfl ?_); refine goesL_ (some 15) rfl rfl Tryd.func11 (by kernel_rfl) rfl #[.agg #[.int .i64 ((rd_T28 l0 x10_1).f0), .string ((rd_T28 l0 x10_1).f1), .bool ((rd_T28 l0 x10_1).f2), .bool ((rd_T28 l0 x10_1).f3), .bool ((rd_T28 l0 x10_1).f4), .bool ((rd_T28 l0 x10_1).f5)]] rfl (by (try simp only [List.map_toArray, List.map_cons, List.map_nil]); first | done | rfl | (simp only [List.length_drop, List.length_take]; rfl)) ?_; (with_reducible refine (laws_zzFits2.calls ((rd_T28 l0 x10_1).f0) ((rd_T28 l0 x10_1).f1) ((rd_T28 l0 x10_1).f2) ((rd_T28 l0 x10_1).f3) ((rd_T28 l0 x10_1).f4) ((rd_T28 l0 x10_1).f5) true _ A6.out).mono ?_); rintro e w10 ⟨rfl, hb⟩; refine ⟨_, rfl, ?_⟩; have n0_ := Aside0.mk (blk_below (g := gb103) (o := .cells #[.int .i64 ((rd_T28 l0 x10_1).f0), .string ((rd_T28 l0 x10_1).f1), .bool ((rd_T28 l0 x10_1).f2), .bool ((rd_T28 l0 x10_1).f3), .bool ((rd_T28 l0 x10_1).f4), .bool ((rd_T28 l0 x10_1).f5)] 28 (0, 0)) (by (with_reducible repeat (first | refine blk_drewN ?_ _ | refine blk_drew ?_ | refine blk_alloc ?_ _)); refine blk_put (cs := #[.int .i64 ((rd_T28 l0 x10_1).f0), .string ((rd_T28 l0 x10_1).f1), .bool ((rd_T28 l0 x10_1).f2), .bool ((rd_T28 l0 x10_1).f3), .bool ((rd_T28 l0 x10_1).f4), .bool false]) ?_ 5 _ rfl; (with_reducible repeat (first | refine blk_drewN ?_ _ | refine blk_drew ?_ | refine blk_alloc ?_ _)); refine blk_put (cs := #[.int .i64 ((rd_T28 l0 x10_1).f0), .string ((rd_T28 l0 x10_1).f1), .bool ((rd_T28 l0 x10_1).f2), .bool ((rd_T28 l0 x10_1).f3), .bool false, .bool false]) ?_ 4 _ rfl; (with_reducible repeat (first | refine blk_drewN ?_ _ | refine blk_drew ?_ | refine blk_alloc ?_ _)); refine blk_put (cs := #[.int .i64 ((rd_T28 l0 x10_1).f0), .string ((rd_T28 l0 x10_1).f1), .bool ((rd_T28 l0 x10_1).f2), .bool false, .bool false, .bool false]) ?_ 3 _ rfl; (with_reducible repeat (first | refine blk_drewN ?_ _ | refine blk_drew ?_ | refine blk_alloc ?_ _)); refine blk_put (cs := #[.int .i64 ((rd_T28 l0 x10_1).f0), .string ((rd_T28 l0 x10_1).f1), .bool false, .bool false, .bool false, .bool false]) ?_ 2 _ rfl; (with_reducible repeat (first | refine blk_drewN ?_ _ | refine blk_drew ?_ | refine blk_alloc ?_ _)); refine blk_put (cs := #[.int .i64 ((rd_T28 l0 x10_1).f0), .string (⟨#[]⟩ : ByteArray), .bool false, .bool false, .bool false, .bool false]) ?_ 1 _ rfl; (with_reducible repeat (first | refine blk_drewN ?_ _ | refine blk_drew ?_ | refine blk_alloc ?_ _)); refine blk_put (cs := #[.int .i64 0, .string (⟨#[]⟩ : ByteArray), .bool false, .bool false, .bool false, .bool false]) ?_ 0 _ rfl; (with_reducible repeat (first | refine blk_drewN ?_ _ | refine blk_drew ?_ | refine blk_alloc ?_ _)); exact BK103.out) hb); have n1_ := Aside0.mk (below_step (by repeat (first | (with_reducible first | exact HB.out | apply below_alloc | apply pw_below_drewN | apply below_drew1 | refine below_set ?_ GE103.out) | exact HB.out)) hb); clear BK103; clear HB; have BK103 := n0_; have HB := n1_; clear n0_ n1_; (try clear hb); (try clear hb2); (try clear hk); (try clear hi)))
                go_roundg k1
                case measure => have := HK1.out; omega
                case rel => exact ⟨(wrap64 (x10_1 + 1)), (by first | rfl | (simp; done) | (simp [*]; done)), H', ⟨by have := HK1.out; omega⟩, ⟨by repeat (first | (with_reducible first | exact HB.out | apply below_alloc | apply pw_below_drewN | apply below_drew1 | refine below_set ?_ GE103.out) | exact HB.out)⟩⟩
              · replace c7 := Bool.eq_false_iff.mpr c7
                subst c7
                have H1 : (some false) = some r := by rw [if_neg (show ¬ (false = true) by decide)] at H; exact H
                clear H
                have H := H1
                clear H1
                obtain rfl := Option.some.inj H
                have p102 : 0 ≤ (x10_1 : Int) := of_decide_eq_true (by first | (with_reducible assumption) | assumption)
                have q102 : x10_1 < (l0.length : Int) := of_decide_eq_true (by first | (with_reducible assumption) | assumption)
                obtain ⟨ad102, e102, hx102_0, hx102_1, hx102_2, hx102_3, hx102_4, hx102_5⟩ := at_T28 HR0.out x10_1 p102 q102
                cases e102
                replace hx102_0 := (HB.out.cell (World.block_lt_of_cell? w _ hx102_0)).trans hx102_0
                replace hx102_1 := (HB.out.cell (World.block_lt_of_cell? w _ hx102_1)).trans hx102_1
                replace hx102_2 := (HB.out.cell (World.block_lt_of_cell? w _ hx102_2)).trans hx102_2
                replace hx102_3 := (HB.out.cell (World.block_lt_of_cell? w _ hx102_3)).trans hx102_3
                replace hx102_4 := (HB.out.cell (World.block_lt_of_cell? w _ hx102_4)).trans hx102_4
                replace hx102_5 := (HB.out.cell (World.block_lt_of_cell? w _ hx102_5)).trans hx102_5
                replace p102 := eq_true p102
                replace q102 := eq_true q102
                go_wp2_with (first | ((with_reducible refine gate_dst (N := 4) rfl ?_); refine box_event ?hg (N := 4) ?hd (cs := #[.int .i64 0, .string (⟨#[]⟩ : ByteArray), .bool false, .bool false, .bool false, .bool false]) (t := 28) ?hr ?_; (case hd => rfl); (case hg => rfl); (case hr => first | (go_simp; done) | (go_simp; rfl)); intro gb103 hg w11 hbox hb; have n0_ := Aside0.mk (below_step (by repeat (first | (with_reducible first | exact HB.out | apply below_alloc | apply pw_below_drewN | apply below_drew1) | exact HB.out)) hb); have n1_ := Aside0.mk (hbox); have n2_ := Aside0.mk ((by rw [hg]; exact (below_size (by repeat (first | (with_reducible first | exact HB.out | apply below_alloc | apply pw_below_drewN | apply below_drew1) | exact HB.out))) : w.heap.size ≤ gb103)); have n3_ := Aside0.mk ((by rw [hg]; exact (below_size (by repeat (first | (with_reducible first | exact HB.out | apply below_alloc | apply pw_below_drewN | apply below_drew1) | exact HB.out))) : w.heap.size ≤ gb103)); clear HB; have HB := n0_; have BK103 := n1_; have GW103 := n2_; have GE103 := n3_; clear n0_ n1_ n2_ n3_; clear hb hbox hg; have hcz12_0 : w11.cell? ⟨gb103, 0, none⟩ = some (.int .i64 0) := (blk_cell BK103.out 0).trans rfl; have hcz12_1 : w11.cell? ⟨gb103, 1, none⟩ = some (.string (⟨#[]⟩ : ByteArray)) := (blk_cell BK103.out 1).trans rfl; have hcz12_2 : w11.cell? ⟨gb103, 2, none⟩ = some (.bool false) := (blk_cell BK103.out 2).trans rfl; have hcz12_3 : w11.cell? ⟨gb103, 3, none⟩ = some (.bool false) := (blk_cell BK103.out 3).trans rfl; have hcz12_4 : w11.cell? ⟨gb103, 4, none⟩ = some (.bool false) := (blk_cell BK103.out 4).trans rfl; have hcz12_5 : w11.cell? ⟨gb103, 5, none⟩ = some (.bool false) := (blk_cell BK103.out 5).trans rfl; have hfz12_0 := blk_frozen BK103.out 0; have hfz12_1 := blk_frozen BK103.out 1; have hfz12_2 := blk_frozen BK103.out 2; have hfz12_3 := blk_frozen BK103.out 3; have hfz12_4 := blk_frozen BK103.out 4; have hfz12_5 := blk_frozen BK103.out 5) | ((with_reducible refine gate_callee (f := 11) rfl ?_); refine goesL_ (some 15) rfl rfl Tryd.func11 (by kernel_rfl) rfl #[.agg #[.int .i64 ((rd_T28 l0 x10_1).f0), .string ((rd_T28 l0 x10_1).f1), .bool ((rd_T28 l0 x10_1).f2), .bool ((rd_T28 l0 x10_1).f3), .bool ((rd_T28 l0 x10_1).f4), .bool ((rd_T28 l0 x10_1).f5)]] rfl (by (try simp only [List.map_toArray, List.map_cons, List.map_nil]); first | done | rfl | (simp only [List.length_drop, List.length_take]; rfl)) ?_; (with_reducible refine (laws_zzFits2.calls ((rd_T28 l0 x10_1).f0) ((rd_T28 l0 x10_1).f1) ((rd_T28 l0 x10_1).f2) ((rd_T28 l0 x10_1).f3) ((rd_T28 l0 x10_1).f4) ((rd_T28 l0 x10_1).f5) false _ A6.out).mono ?_); rintro e w13 ⟨rfl, hb⟩; refine ⟨_, rfl, ?_⟩; have n0_ := Aside0.mk (blk_below (g := gb103) (o := .cells #[.int .i64 ((rd_T28 l0 x10_1).f0), .string ((rd_T28 l0 x10_1).f1), .bool ((rd_T28 l0 x10_1).f2), .bool ((rd_T28 l0 x10_1).f3), .bool ((rd_T28 l0 x10_1).f4), .bool ((rd_T28 l0 x10_1).f5)] 28 (0, 0)) (by (with_reducible repeat (first | refine blk_drewN ?_ _ | refine blk_drew ?_ | refine blk_alloc ?_ _)); refine blk_put (cs := #[.int .i64 ((rd_T28 l0 x10_1).f0), .string ((rd_T28 l0 x10_1).f1), .bool ((rd_T28 l0 x10_1).f2), .bool ((rd_T28 l0 x10_1).f3), .bool ((rd_T28 l0 x10_1).f4), .bool false]) ?_ 5 _ rfl; (with_reducible repeat (first | refine blk_drewN ?_ _ | refine blk_drew ?_ | refine blk_alloc ?_ _)); refine blk_put (cs := #[.int .i64 ((rd_T28 l0 x10_1).f0), .string ((rd_T28 l0 x10_1).f1), .bool ((rd_T28 l0 x10_1).f2), .bool ((rd_T28 l0 x10_1).f3), .bool false, .bool false]) ?_ 4 _ rfl; (with_reducible repeat (first | refine blk_drewN ?_ _ | refine blk_drew ?_ | refine blk_alloc ?_ _)); refine blk_put (cs := #[.int .i64 ((rd_T28 l0 x10_1).f0), .string ((rd_T28 l0 x10_1).f1), .bool ((rd_T28 l0 x10_1).f2), .bool false, .bool false, .bool false]) ?_ 3 _ rfl; (with_reducible repeat (first | refine blk_drewN ?_ _ | refine blk_drew ?_ | refine blk_alloc ?_ _)); refine blk_put (cs := #[.int .i64 ((rd_T28 l0 x10_1).f0), .string ((rd_T28 l0 x10_1).f1), .bool false, .bool false, .bool false, .bool false]) ?_ 2 _ rfl; (with_reducible repeat (first | refine blk_drewN ?_ _ | refine blk_drew ?_ | refine blk_alloc ?_ _)); refine blk_put (cs := #[.int .i64 ((rd_T28 l0 x10_1).f0), .string (⟨#[]⟩ : ByteArray), .bool false, .bool false, .bool false, .bool false]) ?_ 1 _ rfl; (with_reducible repeat (first | refine blk_drewN ?_ _ | refine blk_drew ?_ | refine blk_alloc ?_ _)); refine blk_put (cs := #[.int .i64 0, .string (⟨#[]⟩ : ByteArray), .bool false, .bool false, .bool false, .bool false]) ?_ 0 _ rfl; (with_reducible repeat (first | refine blk_drewN ?_ _ | refine blk_drew ?_ | refine blk_alloc ?_ _)); exact BK103.out) hb); have n1_ := Aside0.mk (below_step (by repeat (first | (with_reducible first | exact HB.out | apply below_alloc | apply pw_below_drewN | apply below_drew1 | refine below_set ?_ GE103.out) | exact HB.out)) hb); clear BK103; clear HB; have BK103 := n0_; have HB := n1_; clear n0_ n1_; (try clear hb); (try clear hb2); (try clear hk); (try clear hi)))
                go_ret
                exact ⟨by first | rfl | (simp [errW_none, errW_some] <;> rfl) | (simp [*, errW_none, errW_some] <;> rfl), by repeat (first | (with_reducible first | exact HB.out | apply below_alloc | apply pw_below_drewN | apply below_drew1 | refine below_set ?_ GE103.out) | exact HB.out)⟩
            · rw [if_neg c5] at H
              exact absurd H (by simp)
          · rw [if_neg c4] at H
            exact absurd H (by simp)
        · rw [if_neg c3] at H
          have c3b0 : decide (x10_1 < (l0.length : Int)) = false := decide_eq_false c3
          clear c3
          obtain rfl := Option.some.inj H
          go_wp2
          go_ret
          exact ⟨by first | rfl | (simp [errW_none, errW_some] <;> rfl) | (simp [*, errW_none, errW_some] <;> rfl), by repeat (first | (with_reducible first | exact HB.out | apply below_alloc | apply pw_below_drewN | apply below_drew1) | exact HB.out)⟩

/-! ### laws_bucketIn: function 6 -/
def laws_bucketIn.l0 : Nat → List (S28) → List (S28) → Int → Int → Option (Bool)
  | 0, _, _, _, _ => none
  | k + 1, x0, x5, x6, x7 => if x7 < x6 then (if 0 ≤ x7 then (if x7 < (x5.length : Int) then (if ((rd_T28 x5 x7).f0) < 0 then (some false) else (if ((rd_T28 x5 x7).f0) > 4 then (some false) else (if (((rd_T28 x5 x7).f1).size : Int) > 100 then (some false) else (laws_bucketIn.l0 k x0 x5 x6 (wrap64 (x7 + 1)))))) else (none)) else (none)) else (some (decide ((x0.length : Int) ≤ 60)))
def laws_bucketIn.f (k : Nat) (l0 : List (S28)) : Option (Bool) := laws_bucketIn.l0 k l0 l0 (l0.length : Int) 0
theorem laws_bucketIn.mono_l : ∀ k, (∀ y0 y1 y2 y3, LeO (laws_bucketIn.l0 k y0 y1 y2 y3) (laws_bucketIn.l0 (k + 1) y0 y1 y2 y3))
  | 0 => fun _ _ _ _ r h => by simp [laws_bucketIn.l0] at h
  | k + 1 => by
    have ih0 := laws_bucketIn.mono_l k
    · intro y0 y1 y2 y3
      unfold laws_bucketIn.l0
      repeat' first
      | (with_reducible exact ih0 _ _ _ _)
      | (with_reducible exact LeO.refl _)
      | (with_reducible exact LeO.none _)
      | (with_reducible refine LeO.ite ?_ ?_)
      | (with_reducible refine LeO.bind ?_ (fun _ => ?_))
      | exact ih0 _ _ _ _
      | exact LeO.none _
      | refine LeO.ite ?_ ?_
      | refine LeO.bind ?_ (fun _ => ?_)
theorem laws_bucketIn.mono : ∀ a0 k, LeO (laws_bucketIn.f k a0) (laws_bucketIn.f (k + 1) a0) := by
  intro a0 k
  have ih0 := laws_bucketIn.mono_l k
  unfold laws_bucketIn.f
  repeat' first
      | (with_reducible exact ih0 _ _ _ _)
      | (with_reducible exact LeO.refl _)
      | (with_reducible exact LeO.none _)
      | (with_reducible refine LeO.ite ?_ ?_)
      | (with_reducible refine LeO.bind ?_ (fun _ => ?_))
      | exact ih0 _ _ _ _
      | exact LeO.none _
      | refine LeO.ite ?_ ?_
      | refine LeO.bind ?_ (fun _ => ?_)
set_option maxHeartbeats 8000000 in
set_option maxRecDepth 100000 in
theorem laws_bucketIn.calls (k : Nat) (A0 : Option Addr) (c0 : Nat) (l0 : List (S28)) (r : Bool) (w : World) (hr0 : Kd.C k28 w A0 l0.length l0) (hc0 : l0.length ≤ c0) (h : laws_bucketIn.f k l0 = some r) :
    Calls Tryd.prog 6 #[.slice A0 l0.length c0] w fun e w' => e = .returned (.bool r) ∧ Below w.heap.size w w' := by
  have hu28 := Tryd.underlying28
  have HR0 := Aside0.mk hr0
  have HC0 := Aside0.mk hc0
  clear hr0 hc0
  have HB := Aside0.mk (Below.refl w.heap.size w)
  have H : (laws_bucketIn.l0 k l0 l0 (l0.length : Int) 0) = some r := h
  clear h
  have H' := Aside0.mk H
  clear H
  go_enter Tryd.func6, Tryd.ntmps6
  go_wp2
  go_loopg [7] k (fun kq v7 w' => ∃ (x7_1 : Int), v7 = .int .i64 x7_1 ∧ Aside0 (laws_bucketIn.l0 kq l0 l0 (l0.length : Int) x7_1 = some r) ∧ Aside0 (kq ≤ k) ∧ Aside0 (Below w.heap.size w w'))
  case atStart => exact ⟨(0), (by first | rfl | (simp; done) | (simp [*]; done)), H', ⟨Nat.le_refl _⟩, ⟨by repeat (first | (with_reducible first | exact HB.out | apply below_alloc | apply pw_below_drewN | apply below_drew1) | exact HB.out)⟩⟩
  case round =>
    clear H'
    obtain ⟨x7_1, rfl, HA, HK1, HB⟩ := hrel
    cases gk with
    | zero => exact absurd HA.out (by simp [laws_bucketIn.l0])
    | succ k1 =>
      have H := HA.out
      clear HA
      simp only [laws_bucketIn.l0] at H
      by_cases c2 : x7_1 < (l0.length : Int)
      · rw [if_pos c2] at H
        have c2b0 : decide (x7_1 < (l0.length : Int)) = true := decide_eq_true c2
        clear c2
        by_cases c3 : 0 ≤ x7_1
        · rw [if_pos c3] at H
          have c3b0 : decide (0 ≤ x7_1) = true := decide_eq_true c3
          clear c3
          by_cases c4 : x7_1 < (l0.length : Int)
          · rw [if_pos c4] at H
            have c4b0 : decide (x7_1 < (l0.length : Int)) = true := decide_eq_true c4
            clear c4
            by_cases c5 : ((rd_T28 l0 x7_1).f0) < 0
            · rw [if_pos c5] at H
              have c5b0 : decide (((rd_T28 l0 x7_1).f0) < 0) = true := decide_eq_true c5
              clear c5
              obtain rfl := Option.some.inj H
              have p105 : 0 ≤ (x7_1 : Int) := of_decide_eq_true (by first | (with_reducible assumption) | assumption)
              have q105 : x7_1 < (l0.length : Int) := of_decide_eq_true (by first | (with_reducible assumption) | assumption)
              obtain ⟨ad105, e105, hx105_0, hx105_1, hx105_2, hx105_3, hx105_4, hx105_5⟩ := at_T28 HR0.out x7_1 p105 q105
              cases e105
              replace hx105_0 := (HB.out.cell (World.block_lt_of_cell? w _ hx105_0)).trans hx105_0
              replace hx105_1 := (HB.out.cell (World.block_lt_of_cell? w _ hx105_1)).trans hx105_1
              replace hx105_2 := (HB.out.cell (World.block_lt_of_cell? w _ hx105_2)).trans hx105_2
              replace hx105_3 := (HB.out.cell (World.block_lt_of_cell? w _ hx105_3)).trans hx105_3
              replace hx105_4 := (HB.out.cell (World.block_lt_of_cell? w _ hx105_4)).trans hx105_4
              replace hx105_5 := (HB.out.cell (World.block_lt_of_cell? w _ hx105_5)).trans hx105_5
              replace p105 := eq_true p105
              replace q105 := eq_true q105
              go_wp2_with (first | ((with_reducible refine gate_dst (N := 4) rfl ?_); (try (refine gate_guard (by rfl) ?_; dsimp only)); refine box_event ?hg (N := 4) ?hd (cs := #[.int .i64 0, .string (⟨#[]⟩ : ByteArray), .bool false, .bool false, .bool false, .bool false]) (t := 28) ?hr ?_; (case hd => rfl); (case hg => rfl); (case hr => first | (go_simp; done) | (go_simp; rfl)); intro gb106 hg w6 hbox hb; have n0_ := Aside0.mk (below_step (by repeat (first | (with_reducible first | exact HB.out | apply below_alloc | apply pw_below_drewN | apply below_drew1) | exact HB.out)) hb); have n1_ := Aside0.mk (hbox); have n2_ := Aside0.mk ((by rw [hg]; exact (below_size (by repeat (first | (with_reducible first | exact HB.out | apply below_alloc | apply pw_below_drewN | apply below_drew1) | exact HB.out))) : w.heap.size ≤ gb106)); have n3_ := Aside0.mk ((by rw [hg]; exact (below_size (by repeat (first | (with_reducible first | exact HB.out | apply below_alloc | apply pw_below_drewN | apply below_drew1) | exact HB.out))) : w.heap.size ≤ gb106)); clear HB; have HB := n0_; have BK106 := n1_; have GW106 := n2_; have GE106 := n3_; clear n0_ n1_ n2_ n3_; clear hb hbox hg; have hcz7_0 : w6.cell? ⟨gb106, 0, none⟩ = some (.int .i64 0) := (blk_cell BK106.out 0).trans rfl; have hcz7_1 : w6.cell? ⟨gb106, 1, none⟩ = some (.string (⟨#[]⟩ : ByteArray)) := (blk_cell BK106.out 1).trans rfl; have hcz7_2 : w6.cell? ⟨gb106, 2, none⟩ = some (.bool false) := (blk_cell BK106.out 2).trans rfl; have hcz7_3 : w6.cell? ⟨gb106, 3, none⟩ = some (.bool false) := (blk_cell BK106.out 3).trans rfl; have hcz7_4 : w6.cell? ⟨gb106, 4, none⟩ = some (.bool false) := (blk_cell BK106.out 4).trans rfl; have hcz7_5 : w6.cell? ⟨gb106, 5, none⟩ = some (.bool false) := (blk_cell BK106.out 5).trans rfl; have hfz7_0 := blk_frozen BK106.out 0; have hfz7_1 := blk_frozen BK106.out 1; have hfz7_2 := blk_frozen BK106.out 2; have hfz7_3 := blk_frozen BK106.out 3; have hfz7_4 := blk_frozen BK106.out 4; have hfz7_5 := blk_frozen BK106.out 5))
              go_ret
              exact ⟨by first | rfl | (simp [errW_none, errW_some] <;> rfl) | (simp [*, errW_none, errW_some] <;> rfl), by repeat (first | (with_reducible first | exact HB.out | apply below_alloc | apply pw_below_drewN | apply below_drew1 | refine below_set ?_ GE106.out) | exact HB.out)⟩
            · rw [if_neg c5] at H
              have c5b0 : decide (((rd_T28 l0 x7_1).f0) < 0) = false := decide_eq_false c5
              clear c5
              by_cases c8 : ((rd_T28 l0 x7_1).f0) > 4
              · rw [if_pos c8] at H
                have c8b0 : decide (4 < ((rd_T28 l0 x7_1).f0)) = true := decide_eq_true c8
                clear c8
                obtain rfl := Option.some.inj H
                have p105 : 0 ≤ (x7_1 : Int) := of_decide_eq_true (by first | (with_reducible assumption) | assumption)
                have q105 : x7_1 < (l0.length : Int) := of_decide_eq_true (by first | (with_reducible assumption) | assumption)
                obtain ⟨ad105, e105, hx105_0, hx105_1, hx105_2, hx105_3, hx105_4, hx105_5⟩ := at_T28 HR0.out x7_1 p105 q105
                cases e105
                replace hx105_0 := (HB.out.cell (World.block_lt_of_cell? w _ hx105_0)).trans hx105_0
                replace hx105_1 := (HB.out.cell (World.block_lt_of_cell? w _ hx105_1)).trans hx105_1
                replace hx105_2 := (HB.out.cell (World.block_lt_of_cell? w _ hx105_2)).trans hx105_2
                replace hx105_3 := (HB.out.cell (World.block_lt_of_cell? w _ hx105_3)).trans hx105_3
                replace hx105_4 := (HB.out.cell (World.block_lt_of_cell? w _ hx105_4)).trans hx105_4
                replace hx105_5 := (HB.out.cell (World.block_lt_of_cell? w _ hx105_5)).trans hx105_5
                replace p105 := eq_true p105
                replace q105 := eq_true q105
                go_wp2_with (first | ((with_reducible refine gate_dst (N := 4) rfl ?_); (try (refine gate_guard (by rfl) ?_; dsimp only)); refine box_event ?hg (N := 4) ?hd (cs := #[.int .i64 0, .string (⟨#[]⟩ : ByteArray), .bool false, .bool false, .bool false, .bool false]) (t := 28) ?hr ?_; (case hd => rfl); (case hg => rfl); (case hr => first | (go_simp; done) | (go_simp; rfl)); intro gb106 hg w9 hbox hb; have n0_ := Aside0.mk (below_step (by repeat (first | (with_reducible first | exact HB.out | apply below_alloc | apply pw_below_drewN | apply below_drew1) | exact HB.out)) hb); have n1_ := Aside0.mk (hbox); have n2_ := Aside0.mk ((by rw [hg]; exact (below_size (by repeat (first | (with_reducible first | exact HB.out | apply below_alloc | apply pw_below_drewN | apply below_drew1) | exact HB.out))) : w.heap.size ≤ gb106)); have n3_ := Aside0.mk ((by rw [hg]; exact (below_size (by repeat (first | (with_reducible first | exact HB.out | apply below_alloc | apply pw_below_drewN | apply below_drew1) | exact HB.out))) : w.heap.size ≤ gb106)); clear HB; have HB := n0_; have BK106 := n1_; have GW106 := n2_; have GE106 := n3_; clear n0_ n1_ n2_ n3_; clear hb hbox hg; have hcz10_0 : w9.cell? ⟨gb106, 0, none⟩ = some (.int .i64 0) := (blk_cell BK106.out 0).trans rfl; have hcz10_1 : w9.cell? ⟨gb106, 1, none⟩ = some (.string (⟨#[]⟩ : ByteArray)) := (blk_cell BK106.out 1).trans rfl; have hcz10_2 : w9.cell? ⟨gb106, 2, none⟩ = some (.bool false) := (blk_cell BK106.out 2).trans rfl; have hcz10_3 : w9.cell? ⟨gb106, 3, none⟩ = some (.bool false) := (blk_cell BK106.out 3).trans rfl; have hcz10_4 : w9.cell? ⟨gb106, 4, none⟩ = some (.bool false) := (blk_cell BK106.out 4).trans rfl; have hcz10_5 : w9.cell? ⟨gb106, 5, none⟩ = some (.bool false) := (blk_cell BK106.out 5).trans rfl; have hfz10_0 := blk_frozen BK106.out 0; have hfz10_1 := blk_frozen BK106.out 1; have hfz10_2 := blk_frozen BK106.out 2; have hfz10_3 := blk_frozen BK106.out 3; have hfz10_4 := blk_frozen BK106.out 4; have hfz10_5 := blk_frozen BK106.out 5))
                go_ret
                exact ⟨by first | rfl | (simp [errW_none, errW_some] <;> rfl) | (simp [*, errW_none, errW_some] <;> rfl), by repeat (first | (with_reducible first | exact HB.out | apply below_alloc | apply pw_below_drewN | apply below_drew1 | refine below_set ?_ GE106.out) | exact HB.out)⟩
              · rw [if_neg c8] at H
                have c8b0 : decide (4 < ((rd_T28 l0 x7_1).f0)) = false := decide_eq_false c8
                clear c8
                by_cases c11 : (((rd_T28 l0 x7_1).f1).size : Int) > 100
                · rw [if_pos c11] at H
                  have c11b0 : decide (100 < (((rd_T28 l0 x7_1).f1).size : Int)) = true := decide_eq_true c11
                  have c11b1 : decide (100 < ((rd_T28 l0 x7_1).f1).size) = true := decide_eq_true (by omega)
                  clear c11
                  obtain rfl := Option.some.inj H
                  have p105 : 0 ≤ (x7_1 : Int) := of_decide_eq_true (by first | (with_reducible assumption) | assumption)
                  have q105 : x7_1 < (l0.length : Int) := of_decide_eq_true (by first | (with_reducible assumption) | assumption)
                  obtain ⟨ad105, e105, hx105_0, hx105_1, hx105_2, hx105_3, hx105_4, hx105_5⟩ := at_T28 HR0.out x7_1 p105 q105
                  cases e105
                  replace hx105_0 := (HB.out.cell (World.block_lt_of_cell? w _ hx105_0)).trans hx105_0
                  replace hx105_1 := (HB.out.cell (World.block_lt_of_cell? w _ hx105_1)).trans hx105_1
                  replace hx105_2 := (HB.out.cell (World.block_lt_of_cell? w _ hx105_2)).trans hx105_2
                  replace hx105_3 := (HB.out.cell (World.block_lt_of_cell? w _ hx105_3)).trans hx105_3
                  replace hx105_4 := (HB.out.cell (World.block_lt_of_cell? w _ hx105_4)).trans hx105_4
                  replace hx105_5 := (HB.out.cell (World.block_lt_of_cell? w _ hx105_5)).trans hx105_5
                  replace p105 := eq_true p105
                  replace q105 := eq_true q105
                  go_wp2_with (first | ((with_reducible refine gate_dst (N := 4) rfl ?_); (try (refine gate_guard (by rfl) ?_; dsimp only)); refine box_event ?hg (N := 4) ?hd (cs := #[.int .i64 0, .string (⟨#[]⟩ : ByteArray), .bool false, .bool false, .bool false, .bool false]) (t := 28) ?hr ?_; (case hd => rfl); (case hg => rfl); (case hr => first | (go_simp; done) | (go_simp; rfl)); intro gb106 hg w12 hbox hb; have n0_ := Aside0.mk (below_step (by repeat (first | (with_reducible first | exact HB.out | apply below_alloc | apply pw_below_drewN | apply below_drew1) | exact HB.out)) hb); have n1_ := Aside0.mk (hbox); have n2_ := Aside0.mk ((by rw [hg]; exact (below_size (by repeat (first | (with_reducible first | exact HB.out | apply below_alloc | apply pw_below_drewN | apply below_drew1) | exact HB.out))) : w.heap.size ≤ gb106)); have n3_ := Aside0.mk ((by rw [hg]; exact (below_size (by repeat (first | (with_reducible first | exact HB.out | apply below_alloc | apply pw_below_drewN | apply below_drew1) | exact HB.out))) : w.heap.size ≤ gb106)); clear HB; have HB := n0_; have BK106 := n1_; have GW106 := n2_; have GE106 := n3_; clear n0_ n1_ n2_ n3_; clear hb hbox hg; have hcz13_0 : w12.cell? ⟨gb106, 0, none⟩ = some (.int .i64 0) := (blk_cell BK106.out 0).trans rfl; have hcz13_1 : w12.cell? ⟨gb106, 1, none⟩ = some (.string (⟨#[]⟩ : ByteArray)) := (blk_cell BK106.out 1).trans rfl; have hcz13_2 : w12.cell? ⟨gb106, 2, none⟩ = some (.bool false) := (blk_cell BK106.out 2).trans rfl; have hcz13_3 : w12.cell? ⟨gb106, 3, none⟩ = some (.bool false) := (blk_cell BK106.out 3).trans rfl; have hcz13_4 : w12.cell? ⟨gb106, 4, none⟩ = some (.bool false) := (blk_cell BK106.out 4).trans rfl; have hcz13_5 : w12.cell? ⟨gb106, 5, none⟩ = some (.bool false) := (blk_cell BK106.out 5).trans rfl; have hfz13_0 := blk_frozen BK106.out 0; have hfz13_1 := blk_frozen BK106.out 1; have hfz13_2 := blk_frozen BK106.out 2; have hfz13_3 := blk_frozen BK106.out 3; have hfz13_4 := blk_frozen BK106.out 4; have hfz13_5 := blk_frozen BK106.out 5))
                  go_ret
                  exact ⟨by first | rfl | (simp [errW_none, errW_some] <;> rfl) | (simp [*, errW_none, errW_some] <;> rfl), by repeat (first | (with_reducible first | exact HB.out | apply below_alloc | apply pw_below_drewN | apply below_drew1 | refine below_set ?_ GE106.out) | exact HB.out)⟩
                · rw [if_neg c11] at H
                  have c11b0 : decide (100 < (((rd_T28 l0 x7_1).f1).size : Int)) = false := decide_eq_false c11
                  have c11b1 : decide (100 < ((rd_T28 l0 x7_1).f1).size) = false := decide_eq_false (by omega)
                  clear c11
                  have H' := Aside0.mk H
                  clear H
                  have p105 : 0 ≤ (x7_1 : Int) := of_decide_eq_true (by first | (with_reducible assumption) | assumption)
                  have q105 : x7_1 < (l0.length : Int) := of_decide_eq_true (by first | (with_reducible assumption) | assumption)
                  obtain ⟨ad105, e105, hx105_0, hx105_1, hx105_2, hx105_3, hx105_4, hx105_5⟩ := at_T28 HR0.out x7_1 p105 q105
                  cases e105
                  replace hx105_0 := (HB.out.cell (World.block_lt_of_cell? w _ hx105_0)).trans hx105_0
                  replace hx105_1 := (HB.out.cell (World.block_lt_of_cell? w _ hx105_1)).trans hx105_1
                  replace hx105_2 := (HB.out.cell (World.block_lt_of_cell? w _ hx105_2)).trans hx105_2
                  replace hx105_3 := (HB.out.cell (World.block_lt_of_cell? w _ hx105_3)).trans hx105_3
                  replace hx105_4 := (HB.out.cell (World.block_lt_of_cell? w _ hx105_4)).trans hx105_4
                  replace hx105_5 := (HB.out.cell (World.block_lt_of_cell? w _ hx105_5)).trans hx105_5
                  replace p105 := eq_true p105
                  replace q105 := eq_true q105
                  go_wp2_with (first | ((with_reducible refine gate_dst (N := 4) rfl ?_); (try (refine gate_guard (by rfl) ?_; dsimp only)); refine box_event ?hg (N := 4) ?hd (cs := #[.int .i64 0, .string (⟨#[]⟩ : ByteArray), .bool false, .bool false, .bool false, .bool false]) (t := 28) ?hr ?_; (case hd => rfl); (case hg => rfl); (case hr => first | (go_simp; done) | (go_simp; rfl)); intro gb106 hg w14 hbox hb; have n0_ := Aside0.mk (below_step (by repeat (first | (with_reducible first | exact HB.out | apply below_alloc | apply pw_below_drewN | apply below_drew1) | exact HB.out)) hb); have n1_ := Aside0.mk (hbox); have n2_ := Aside0.mk ((by rw [hg]; exact (below_size (by repeat (first | (with_reducible first | exact HB.out | apply below_alloc | apply pw_below_drewN | apply below_drew1) | exact HB.out))) : w.heap.size ≤ gb106)); have n3_ := Aside0.mk ((by rw [hg]; exact (below_size (by repeat (first | (with_reducible first | exact HB.out | apply below_alloc | apply pw_below_drewN | apply below_drew1) | exact HB.out))) : w.heap.size ≤ gb106)); clear HB; have HB := n0_; have BK106 := n1_; have GW106 := n2_; have GE106 := n3_; clear n0_ n1_ n2_ n3_; clear hb hbox hg; have hcz15_0 : w14.cell? ⟨gb106, 0, none⟩ = some (.int .i64 0) := (blk_cell BK106.out 0).trans rfl; have hcz15_1 : w14.cell? ⟨gb106, 1, none⟩ = some (.string (⟨#[]⟩ : ByteArray)) := (blk_cell BK106.out 1).trans rfl; have hcz15_2 : w14.cell? ⟨gb106, 2, none⟩ = some (.bool false) := (blk_cell BK106.out 2).trans rfl; have hcz15_3 : w14.cell? ⟨gb106, 3, none⟩ = some (.bool false) := (blk_cell BK106.out 3).trans rfl; have hcz15_4 : w14.cell? ⟨gb106, 4, none⟩ = some (.bool false) := (blk_cell BK106.out 4).trans rfl; have hcz15_5 : w14.cell? ⟨gb106, 5, none⟩ = some (.bool false) := (blk_cell BK106.out 5).trans rfl; have hfz15_0 := blk_frozen BK106.out 0; have hfz15_1 := blk_frozen BK106.out 1; have hfz15_2 := blk_frozen BK106.out 2; have hfz15_3 := blk_frozen BK106.out 3; have hfz15_4 := blk_frozen BK106.out 4; have hfz15_5 := blk_frozen BK106.out 5))
                  go_roundg k1
                  case measure => have := HK1.out; omega
                  case rel => exact ⟨(wrap64 (x7_1 + 1)), (by first | rfl | (simp; done) | (simp [*]; done)), H', ⟨by have := HK1.out; omega⟩, ⟨by repeat (first | (with_reducible first | exact HB.out | apply below_alloc | apply pw_below_drewN | apply below_drew1 | refine below_set ?_ GE106.out) | exact HB.out)⟩⟩
          · rw [if_neg c4] at H
            exact absurd H (by simp)
        · rw [if_neg c3] at H
          exact absurd H (by simp)
      · rw [if_neg c2] at H
        have c2b0 : decide (x7_1 < (l0.length : Int)) = false := decide_eq_false c2
        clear c2
        obtain rfl := Option.some.inj H
        go_wp2
        go_ret
        exact ⟨by first | rfl | (simp [errW_none, errW_some] <;> rfl) | (simp [*, errW_none, errW_some] <;> rfl), by repeat (first | (with_reducible first | exact HB.out | apply below_alloc | apply pw_below_drewN | apply below_drew1) | exact HB.out)⟩

-- NOT PRINTED: function 12 (bucket_NewCache)

-- NOT PRINTED: function 13 (errors_New)

-- NOT PRINTED: function 16 (bucket_Cache_MarkOK)

-- NOT PRINTED: function 17 (bucket_Cache_MarkDeleted)

-- NOT PRINTED: function 18 (bucket_Cache_IsDeleted)

-- NOT PRINTED: function 19 (bucket_Cache_Create)

-- NOT PRINTED: function 20 (bucket_Cache_Remove)

/-! ### laws_bucketAwake: function 7 -/
def laws_bucketAwake.f  : Option (Bool) := (impl_BucketSteps.f (([(⟨4, (⟨#[98]⟩ : ByteArray), true, false, false, false⟩ : S28), (⟨2, (⟨#[98]⟩ : ByteArray), false, false, false, false⟩ : S28)] : List (S28)))).bind fun t111 => (if (t111.length : Int) = 2 then (if 0 < (t111.length : Int) then (if (rd_T30 t111 0).f1 = true then (if ((rd_T30 t111 0).f3) = 0 then (if 1 < (t111.length : Int) then (some ((rd_T30 t111 1).f0)) else (none)) else (some false)) else (some false)) else (none)) else (some false))
set_option maxHeartbeats 8000000 in
set_option maxRecDepth 100000 in
theorem laws_bucketAwake.calls  (r : Bool) (w : World) (hL : LaidE w) (h : laws_bucketAwake.f  = some r) :
    Calls Tryd.prog 7 #[] w fun e w' => e = .returned (.bool r) ∧ Below w.heap.size w w' := by
  have hu28 := Tryd.underlying28
  have HB := Aside0.mk (Below.refl w.heap.size w)
  have H : ((impl_BucketSteps.f (([(⟨4, (⟨#[98]⟩ : ByteArray), true, false, false, false⟩ : S28), (⟨2, (⟨#[98]⟩ : ByteArray), false, false, false, false⟩ : S28)] : List (S28)))).bind fun t111 => (if (t111.length : Int) = 2 then (if 0 < (t111.length : Int) then (if (rd_T30 t111 0).f1 = true then (if ((rd_T30 t111 0).f3) = 0 then (if 1 < (t111.length : Int) then (some ((rd_T30 t111 1).f0)) else (none)) else (some false)) else (some false)) else (none)) else (some false))) = some r := h
  clear h
  obtain ⟨y108, hy108⟩ : ∃ y_ : List (S28), y_ = (([(⟨4, (⟨#[98]⟩ : ByteArray), true, false, false, false⟩ : S28), (⟨2, (⟨#[98]⟩ : ByteArray), false, false, false, false⟩ : S28)] : List (S28))) := ⟨_, rfl⟩
  replace H : ((impl_BucketSteps.f y108).bind fun t111 => (if (t111.length : Int) = 2 then (if 0 < (t111.length : Int) then (if (rd_T30 t111 0).f1 = true then (if ((rd_T30 t111 0).f3) = 0 then (if 1 < (t111.length : Int) then (some ((rd_T30 t111 1).f0)) else (none)) else (some false)) else (some false)) else (none)) else (some false))) = some r := by first | (rw [hy108]; with_reducible exact H) | (have H2_ := (Option.bind_some _ _).symm.trans H; rw [hy108]; with_reducible exact H2_) | (have H2_ := (Option.bind_some _ _).symm.trans H; with_reducible exact H2_) | with_reducible exact H | (rw [hy108]; exact H) | exact H
  have Ny108 := Aside0.mk hy108
  clear hy108
  replace H := Option.bind_eq_some_iff.mp H
  obtain ⟨t111, A10, H⟩ := H
  replace H : (if (t111.length : Int) = 2 then (if 0 < (t111.length : Int) then (if (rd_T30 t111 0).f1 = true then (if ((rd_T30 t111 0).f3) = 0 then (if 1 < (t111.length : Int) then (some ((rd_T30 t111 1).f0)) else (none)) else (some false)) else (some false)) else (none)) else (some false)) = some r := H
  have A1 := Aside0.mk A10
  clear A10
  by_cases c2 : (t111.length : Int) = 2
  · rw [if_pos c2] at H
    have c2b0 : ((t111.length : Int) == 2) = true := beq_iff_eq.mpr c2
    have c2b1 : ((t111.length : Int) != 2) = false := bne_eq_false_iff_eq.mpr c2
    clear c2
    by_cases c3 : 0 < (t111.length : Int)
    · rw [if_pos c3] at H
      have c3b0 : decide (0 < (t111.length : Int)) = true := decide_eq_true c3
      have c3b1 : decide (0 < t111.length) = true := decide_eq_true (by omega)
      clear c3
      obtain ⟨bq4, hbq4⟩ : ∃ b_ : Bool, b_ = ((rd_T30 t111 0).f1) := ⟨_, rfl⟩
      replace H : (if bq4 = true then (if ((rd_T30 t111 0).f3) = 0 then (if 1 < (t111.length : Int) then (some ((rd_T30 t111 1).f0)) else (none)) else (some false)) else (some false)) = some r := by rw [← hbq4] at H; exact H
      have Nbq4 := Aside0.mk hbq4
      clear hbq4
      by_cases c5 : bq4 = true
      · subst c5
        have H1 : (if ((rd_T30 t111 0).f3) = 0 then (if 1 < (t111.length : Int) then (some ((rd_T30 t111 1).f0)) else (none)) else (some false)) = some r := by rw [if_pos rfl] at H; exact H
        clear H
        have H := H1
        clear H1
        by_cases c6 : ((rd_T30 t111 0).f3) = 0
        · rw [if_pos c6] at H
          have c6b0 : (((rd_T30 t111 0).f3) == 0) = true := beq_iff_eq.mpr c6
          have c6b1 : (((rd_T30 t111 0).f3) != 0) = false := bne_eq_false_iff_eq.mpr c6
          clear c6
          by_cases c7 : 1 < (t111.length : Int)
          · rw [if_pos c7] at H
            have c7b0 : decide (1 < (t111.length : Int)) = true := decide_eq_true c7
            have c7b1 : decide (1 < t111.length) = true := decide_eq_true (by omega)
            clear c7
            obtain rfl := Option.some.inj H
            go_enter Tryd.func7, Tryd.ntmps7
            go_wp2_with (first | ((with_reducible refine gate_dst (N := 4) rfl ?_); refine Kd.R_lit k28 _ 28 ?hg (N := 4) ?hd (xs := ([(⟨4, (⟨#[98]⟩ : ByteArray), true, false, false, false⟩ : S28), (⟨2, (⟨#[98]⟩ : ByteArray), false, false, false, false⟩ : S28)] : List (S28))) (inner := [.int .i64 4, .string (⟨#[98]⟩ : ByteArray), .bool true, .bool false, .bool false, .bool false, .int .i64 2, .string (⟨#[98]⟩ : ByteArray), .bool false, .bool false, .bool false, .bool false]) (ok := fun _ => True) (okp := fun _ => True) ?hr ?hp (fun _ hk => hk) trivial (Below.refl _ _) (Nat.le_refl _) (by simp) ?_; (case hd => rfl); (case hg => rfl); (case hr => first | (go_simp; done) | (go_simp; rfl)); (case hp => exact (Reps.c6 (show Kd.M k28 _ _ _ (⟨4, (⟨#[98]⟩ : ByteArray), true, false, false, false⟩ : S28) [.int .i64 4, .string (⟨#[98]⟩ : ByteArray), .bool true, .bool false, .bool false, .bool false] from (k28_mkM _ _ _ (⟨4, (⟨#[98]⟩ : ByteArray), true, false, false, false⟩ : S28) )) (Reps.c6 (show Kd.M k28 _ _ _ (⟨2, (⟨#[98]⟩ : ByteArray), false, false, false, false⟩ : S28) [.int .i64 2, .string (⟨#[98]⟩ : ByteArray), .bool false, .bool false, .bool false, .bool false] from (k28_mkM _ _ _ (⟨2, (⟨#[98]⟩ : ByteArray), false, false, false, false⟩ : S28) )) (Reps.none _ _)))); intro v109 w8 ho9 hb hg_ hnew_; clear hg_ hnew_; (first | rw [← Ny108.out] at ho9 | (simp only [Int.reduceToNat] at ho9; rw [← Ny108.out] at ho9)); have n0_ := Aside0.mk (Kd.R_lower ho9 (below_size (by repeat (first | (with_reducible first | exact HB.out | apply below_alloc | apply pw_below_drewN | apply below_drew1) | exact HB.out)))); have n1_ := Aside0.mk (below_step (by repeat (first | (with_reducible first | exact HB.out | apply below_alloc | apply pw_below_drewN | apply below_drew1) | exact HB.out)) hb); clear HB; have HO110 := n0_; have HB := n1_; clear n0_ n1_; clear hb ho9; obtain ⟨Ao10, co10, eo10⟩ := Kd.R_slice HO110.out; subst eo10) | ((with_reducible refine gate_callee (f := 8) rfl ?_); refine goesL_ (some 5) rfl rfl Tryd.func8 (by kernel_rfl) rfl #[.slice Ao10 y108.length co10] rfl (by (try simp only [List.map_toArray, List.map_cons, List.map_nil]); first | done | rfl | (simp only [List.length_drop, List.length_take]; rfl)) ?_; (with_reducible refine (impl_BucketSteps.calls _ _ y108 t111 _ (hL.below (by repeat (first | (with_reducible first | exact HB.out | apply below_alloc | apply pw_below_drewN | apply below_drew1) | exact HB.out))) ?side1 ?side2 A1.out).mono ?_); (case side1 => repeat (first | exact (Kd.R_reads' HO110.out).2.2 | (with_reducible refine Kd.C_alloc ?_ _) | (with_reducible refine Kd.C_drewN ?_ _) | (with_reducible refine Kd.C_drew ?_))); (case side2 => exact (Kd.R_reads' HO110.out).2.1); rintro e w11 ⟨v112, rfl, ho0, hb⟩; refine ⟨_, rfl, ?_⟩; have n0_ := Aside0.mk (Kd.R_below (by (with_reducible repeat (first | apply Kd.R_alloc | apply Kd.R_drewN | apply Kd.R_drew)); exact HO110.out) hb); have n1_ := Aside0.mk (Kd.R_lower ho0 (below_size (by repeat (first | (with_reducible first | exact HB.out | apply below_alloc | apply pw_below_drewN | apply below_drew1) | exact HB.out)))); have n2_ := Aside0.mk (below_step (by repeat (first | (with_reducible first | exact HB.out | apply below_alloc | apply pw_below_drewN | apply below_drew1) | exact HB.out)) hb); clear HO110; clear HB; have HO110 := n0_; have HO113 := n1_; have HB := n2_; clear n0_ n1_ n2_; (try clear hb); (try clear hb2); (try clear hk); (try clear hi); (try clear ho0); obtain ⟨Ao12, co12, eo12⟩ := Kd.R_slice HO113.out; subst eo12; have p114 : 0 ≤ (0 : Int) := (by omega); have q114 : 0 < (t111.length : Int) := of_decide_eq_true (by first | (with_reducible assumption) | assumption); obtain ⟨ad114, e114, hx114_0, hx114_1, hx114_2, hx114_3⟩ := at_T30 (Kd.R_reads' HO113.out).2.2 0 p114 q114; (try rw [← Nbq4.out] at hx114_0); (try rw [← Nbq4.out] at hx114_1); (try rw [← Nbq4.out] at hx114_2); cases e114; have qi114 : (0 < t111.length) = True := eq_true (by omega); (try rw [show ((0 : Int)).toNat = 0 from rfl] at hx114_0); (try rw [show 0 * 4 = 0 from rfl] at hx114_0); (try rw [Addr.add_zero'] at hx114_0); (try rw [show ((0 : Int)).toNat = 0 from rfl] at hx114_1); (try rw [show 0 * 4 = 0 from rfl] at hx114_1); (try rw [Addr.add_zero'] at hx114_1); (try rw [show ((0 : Int)).toNat = 0 from rfl] at hx114_2); (try rw [show 0 * 4 = 0 from rfl] at hx114_2); (try rw [Addr.add_zero'] at hx114_2); (try rw [show ((0 : Int)).toNat = 0 from rfl] at hx114_3); (try rw [show 0 * 4 = 0 from rfl] at hx114_3); (try rw [Addr.add_zero'] at hx114_3); replace p114 := eq_true p114; replace q114 := eq_true q114; have p115 : 0 ≤ (0 : Int) := (by omega); have q115 : 0 < (t111.length : Int) := of_decide_eq_true (by first | (with_reducible assumption) | assumption); obtain ⟨ad115, e115, hx115_0, hx115_1, hx115_2, hx115_3⟩ := at_T30 (Kd.R_reads' HO113.out).2.2 0 p115 q115; (try rw [← Nbq4.out] at hx115_0); (try rw [← Nbq4.out] at hx115_1); (try rw [← Nbq4.out] at hx115_2); obtain rfl : ad114 = ad115 := (by injection e115); have qi115 : (0 < t111.length) = True := eq_true (by omega); (try rw [show ((0 : Int)).toNat = 0 from rfl] at hx115_0); (try rw [show 0 * 4 = 0 from rfl] at hx115_0); (try rw [Addr.add_zero'] at hx115_0); (try rw [show ((0 : Int)).toNat = 0 from rfl] at hx115_1); (try rw [show 0 * 4 = 0 from rfl] at hx115_1); (try rw [Addr.add_zero'] at hx115_1); (try rw [show ((0 : Int)).toNat = 0 from rfl] at hx115_2); (try rw [show 0 * 4 = 0 from rfl] at hx115_2); (try rw [Addr.add_zero'] at hx115_2); (try rw [show ((0 : Int)).toNat = 0 from rfl] at hx115_3); (try rw [show 0 * 4 = 0 from rfl] at hx115_3); (try rw [Addr.add_zero'] at hx115_3); replace p115 := eq_true p115; replace q115 := eq_true q115; have p116 : 0 ≤ (1 : Int) := (by omega); have q116 : 1 < (t111.length : Int) := of_decide_eq_true (by first | (with_reducible assumption) | assumption); obtain ⟨ad116, e116, hx116_0, hx116_1, hx116_2, hx116_3⟩ := at_T30 (Kd.R_reads' HO113.out).2.2 1 p116 q116; (try rw [← Nbq4.out] at hx116_0); (try rw [← Nbq4.out] at hx116_1); (try rw [← Nbq4.out] at hx116_2); obtain rfl : ad114 = ad116 := (by injection e116); (try simp only [show (1 : Int).toNat = 1 from rfl, Nat.reduceMul, Nat.reduceEqDiff, Go.Addr.add, ↓reduceIte] at hx116_0); (try simp only [show (1 : Int).toNat = 1 from rfl, Nat.reduceMul, Nat.reduceEqDiff, Go.Addr.add, ↓reduceIte] at hx116_1); (try simp only [show (1 : Int).toNat = 1 from rfl, Nat.reduceMul, Nat.reduceEqDiff, Go.Addr.add, ↓reduceIte] at hx116_2); (try simp only [show (1 : Int).toNat = 1 from rfl, Nat.reduceMul, Nat.reduceEqDiff, Go.Addr.add, ↓reduceIte] at hx116_3); have qi116 : (1 < t111.length) = True := eq_true (by omega); (try rw [show ((1 : Int)).toNat = 1 from rfl] at hx116_0); (try rw [show 1 * 4 = 4 from rfl] at hx116_0); (try rw [show ((1 : Int)).toNat = 1 from rfl] at hx116_1); (try rw [show 1 * 4 = 4 from rfl] at hx116_1); (try rw [show ((1 : Int)).toNat = 1 from rfl] at hx116_2); (try rw [show 1 * 4 = 4 from rfl] at hx116_2); (try rw [show ((1 : Int)).toNat = 1 from rfl] at hx116_3); (try rw [show 1 * 4 = 4 from rfl] at hx116_3); replace p116 := eq_true p116; replace q116 := eq_true q116))
            go_ret
            exact ⟨by first | rfl | (simp [errW_none, errW_some] <;> rfl) | (simp [*, errW_none, errW_some] <;> rfl), by repeat (first | (with_reducible first | exact HB.out | apply below_alloc | apply pw_below_drewN | apply below_drew1) | exact HB.out)⟩
          · rw [if_neg c7] at H
            exact absurd H (by simp)
        · rw [if_neg c6] at H
          have c6b0 : (((rd_T30 t111 0).f3) == 0) = false := beq_eq_false_iff_ne.mpr c6
          have c6b1 : (((rd_T30 t111 0).f3) != 0) = true := bne_iff_ne.mpr c6
          obtain rfl := Option.some.inj H
          go_enter Tryd.func7, Tryd.ntmps7
          go_wp2_with (first | ((with_reducible refine gate_dst (N := 4) rfl ?_); refine Kd.R_lit k28 _ 28 ?hg (N := 4) ?hd (xs := ([(⟨4, (⟨#[98]⟩ : ByteArray), true, false, false, false⟩ : S28), (⟨2, (⟨#[98]⟩ : ByteArray), false, false, false, false⟩ : S28)] : List (S28))) (inner := [.int .i64 4, .string (⟨#[98]⟩ : ByteArray), .bool true, .bool false, .bool false, .bool false, .int .i64 2, .string (⟨#[98]⟩ : ByteArray), .bool false, .bool false, .bool false, .bool false]) (ok := fun _ => True) (okp := fun _ => True) ?hr ?hp (fun _ hk => hk) trivial (Below.refl _ _) (Nat.le_refl _) (by simp) ?_; (case hd => rfl); (case hg => rfl); (case hr => first | (go_simp; done) | (go_simp; rfl)); (case hp => exact (Reps.c6 (show Kd.M k28 _ _ _ (⟨4, (⟨#[98]⟩ : ByteArray), true, false, false, false⟩ : S28) [.int .i64 4, .string (⟨#[98]⟩ : ByteArray), .bool true, .bool false, .bool false, .bool false] from (k28_mkM _ _ _ (⟨4, (⟨#[98]⟩ : ByteArray), true, false, false, false⟩ : S28) )) (Reps.c6 (show Kd.M k28 _ _ _ (⟨2, (⟨#[98]⟩ : ByteArray), false, false, false, false⟩ : S28) [.int .i64 2, .string (⟨#[98]⟩ : ByteArray), .bool false, .bool false, .bool false, .bool false] from (k28_mkM _ _ _ (⟨2, (⟨#[98]⟩ : ByteArray), false, false, false, false⟩ : S28) )) (Reps.none _ _)))); intro v109 w13 ho14 hb hg_ hnew_; clear hg_ hnew_; (first | rw [← Ny108.out] at ho14 | (simp only [Int.reduceToNat] at ho14; rw [← Ny108.out] at ho14)); have n0_ := Aside0.mk (Kd.R_lower ho14 (below_size (by repeat (first | (with_reducible first | exact HB.out | apply below_alloc | apply pw_below_drewN | apply below_drew1) | exact HB.out)))); have n1_ := Aside0.mk (below_step (by repeat (first | (with_reducible first | exact HB.out | apply below_alloc | apply pw_below_drewN | apply below_drew1) | exact HB.out)) hb); clear HB; have HO110 := n0_; have HB := n1_; clear n0_ n1_; clear hb ho14; obtain ⟨Ao15, co15, eo15⟩ := Kd.R_slice HO110.out; subst eo15) | ((with_reducible refine gate_callee (f := 8) rfl ?_); refine goesL_ (some 5) rfl rfl Tryd.func8 (by kernel_rfl) rfl #[.slice Ao15 y108.length co15] rfl (by (try simp only [List.map_toArray, List.map_cons, List.map_nil]); first | done | rfl | (simp only [List.length_drop, List.length_take]; rfl)) ?_; (with_reducible refine (impl_BucketSteps.calls _ _ y108 t111 _ (hL.below (by repeat (first | (with_reducible first | exact HB.out | apply below_alloc | apply pw_below_drewN | apply below_drew1) | exact HB.out))) ?side1 ?side2 A1.out).mono ?_); (case side1 => repeat (first | exact (Kd.R_reads' HO110.out).2.2 | (with_reducible refine Kd.C_alloc ?_ _) | (with_reducible refine Kd.C_drewN ?_ _) | (with_reducible refine Kd.C_drew ?_))); (case side2 => exact (Kd.R_reads' HO110.out).2.1); rintro e w16 ⟨v112, rfl, ho0, hb⟩; refine ⟨_, rfl, ?_⟩; have n0_ := Aside0.mk (Kd.R_below (by (with_reducible repeat (first | apply Kd.R_alloc | apply Kd.R_drewN | apply Kd.R_drew)); exact HO110.out) hb); have n1_ := Aside0.mk (Kd.R_lower ho0 (below_size (by repeat (first | (with_reducible first | exact HB.out | apply below_alloc | apply pw_below_drewN | apply below_drew1) | exact HB.out)))); have n2_ := Aside0.mk (below_step (by repeat (first | (with_reducible first | exact HB.out | apply below_alloc | apply pw_below_drewN | apply below_drew1) | exact HB.out)) hb); clear HO110; clear HB; have HO110 := n0_; have HO113 := n1_; have HB := n2_; clear n0_ n1_ n2_; (try clear hb); (try clear hb2); (try clear hk); (try clear hi); (try clear ho0); obtain ⟨Ao17, co17, eo17⟩ := Kd.R_slice HO113.out; subst eo17; have p114 : 0 ≤ (0 : Int) := (by omega); have q114 : 0 < (t111.length : Int) := of_decide_eq_true (by first | (with_reducible assumption) | assumption); obtain ⟨ad114, e114, hx114_0, hx114_1, hx114_2, hx114_3⟩ := at_T30 (Kd.R_reads' HO113.out).2.2 0 p114 q114; (try rw [← Nbq4.out] at hx114_0); (try rw [← Nbq4.out] at hx114_1); (try rw [← Nbq4.out] at hx114_2); cases e114; have qi114 : (0 < t111.length) = True := eq_true (by omega); (try rw [show ((0 : Int)).toNat = 0 from rfl] at hx114_0); (try rw [show 0 * 4 = 0 from rfl] at hx114_0); (try rw [Addr.add_zero'] at hx114_0); (try rw [show ((0 : Int)).toNat = 0 from rfl] at hx114_1); (try rw [show 0 * 4 = 0 from rfl] at hx114_1); (try rw [Addr.add_zero'] at hx114_1); (try rw [show ((0 : Int)).toNat = 0 from rfl] at hx114_2); (try rw [show 0 * 4 = 0 from rfl] at hx114_2); (try rw [Addr.add_zero'] at hx114_2); (try rw [show ((0 : Int)).toNat = 0 from rfl] at hx114_3); (try rw [show 0 * 4 = 0 from rfl] at hx114_3); (try rw [Addr.add_zero'] at hx114_3); replace p114 := eq_true p114; replace q114 := eq_true q114; have p115 : 0 ≤ (0 : Int) := (by omega); have q115 : 0 < (t111.length : Int) := of_decide_eq_true (by first | (with_reducible assumption) | assumption); obtain ⟨ad115, e115, hx115_0, hx115_1, hx115_2, hx115_3⟩ := at_T30 (Kd.R_reads' HO113.out).2.2 0 p115 q115; (try rw [← Nbq4.out] at hx115_0); (try rw [← Nbq4.out] at hx115_1); (try rw [← Nbq4.out] at hx115_2); obtain rfl : ad114 = ad115 := (by injection e115); have qi115 : (0 < t111.length) = True := eq_true (by omega); (try rw [show ((0 : Int)).toNat = 0 from rfl] at hx115_0); (try rw [show 0 * 4 = 0 from rfl] at hx115_0); (try rw [Addr.add_zero'] at hx115_0); (try rw [show ((0 : Int)).toNat = 0 from rfl] at hx115_1); (try rw [show 0 * 4 = 0 from rfl] at hx115_1); (try rw [Addr.add_zero'] at hx115_1); (try rw [show ((0 : Int)).toNat = 0 from rfl] at hx115_2); (try rw [show 0 * 4 = 0 from rfl] at hx115_2); (try rw [Addr.add_zero'] at hx115_2); (try rw [show ((0 : Int)).toNat = 0 from rfl] at hx115_3); (try rw [show 0 * 4 = 0 from rfl] at hx115_3); (try rw [Addr.add_zero'] at hx115_3); replace p115 := eq_true p115; replace q115 := eq_true q115))
          go_ret
          exact ⟨by first | rfl | (simp [errW_none, errW_some] <;> rfl) | (simp [*, errW_none, errW_some] <;> rfl), by repeat (first | (with_reducible first | exact HB.out | apply below_alloc | apply pw_below_drewN | apply below_drew1) | exact HB.out)⟩
      · replace c5 := Bool.eq_false_iff.mpr c5
        subst c5
        have H1 : (some false) = some r := by rw [if_neg (show ¬ (false = true) by decide)] at H; exact H
        clear H
        have H := H1
        clear H1
        obtain rfl := Option.some.inj H
        go_enter Tryd.func7, Tryd.ntmps7
        go_wp2_with (first | ((with_reducible refine gate_dst (N := 4) rfl ?_); refine Kd.R_lit k28 _ 28 ?hg (N := 4) ?hd (xs := ([(⟨4, (⟨#[98]⟩ : ByteArray), true, false, false, false⟩ : S28), (⟨2, (⟨#[98]⟩ : ByteArray), false, false, false, false⟩ : S28)] : List (S28))) (inner := [.int .i64 4, .string (⟨#[98]⟩ : ByteArray), .bool true, .bool false, .bool false, .bool false, .int .i64 2, .string (⟨#[98]⟩ : ByteArray), .bool false, .bool false, .bool false, .bool false]) (ok := fun _ => True) (okp := fun _ => True) ?hr ?hp (fun _ hk => hk) trivial (Below.refl _ _) (Nat.le_refl _) (by simp) ?_; (case hd => rfl); (case hg => rfl); (case hr => first | (go_simp; done) | (go_simp; rfl)); (case hp => exact (Reps.c6 (show Kd.M k28 _ _ _ (⟨4, (⟨#[98]⟩ : ByteArray), true, false, false, false⟩ : S28) [.int .i64 4, .string (⟨#[98]⟩ : ByteArray), .bool true, .bool false, .bool false, .bool false] from (k28_mkM _ _ _ (⟨4, (⟨#[98]⟩ : ByteArray), true, false, false, false⟩ : S28) )) (Reps.c6 (show Kd.M k28 _ _ _ (⟨2, (⟨#[98]⟩ : ByteArray), false, false, false, false⟩ : S28) [.int .i64 2, .string (⟨#[98]⟩ : ByteArray), .bool false, .bool false, .bool false, .bool false] from (k28_mkM _ _ _ (⟨2, (⟨#[98]⟩ : ByteArray), false, false, false, false⟩ : S28) )) (Reps.none _ _)))); intro v109 w18 ho19 hb hg_ hnew_; clear hg_ hnew_; (first | rw [← Ny108.out] at ho19 | (simp only [Int.reduceToNat] at ho19; rw [← Ny108.out] at ho19)); have n0_ := Aside0.mk (Kd.R_lower ho19 (below_size (by repeat (first | (with_reducible first | exact HB.out | apply below_alloc | apply pw_below_drewN | apply below_drew1) | exact HB.out)))); have n1_ := Aside0.mk (below_step (by repeat (first | (with_reducible first | exact HB.out | apply below_alloc | apply pw_below_drewN | apply below_drew1) | exact HB.out)) hb); clear HB; have HO110 := n0_; have HB := n1_; clear n0_ n1_; clear hb ho19; obtain ⟨Ao20, co20, eo20⟩ := Kd.R_slice HO110.out; subst eo20) | ((with_reducible refine gate_callee (f := 8) rfl ?_); refine goesL_ (some 5) rfl rfl Tryd.func8 (by kernel_rfl) rfl #[.slice Ao20 y108.length co20] rfl (by (try simp only [List.map_toArray, List.map_cons, List.map_nil]); first | done | rfl | (simp only [List.length_drop, List.length_take]; rfl)) ?_; (with_reducible refine (impl_BucketSteps.calls _ _ y108 t111 _ (hL.below (by repeat (first | (with_reducible first | exact HB.out | apply below_alloc | apply pw_below_drewN | apply below_drew1) | exact HB.out))) ?side1 ?side2 A1.out).mono ?_); (case side1 => repeat (first | exact (Kd.R_reads' HO110.out).2.2 | (with_reducible refine Kd.C_alloc ?_ _) | (with_reducible refine Kd.C_drewN ?_ _) | (with_reducible refine Kd.C_drew ?_))); (case side2 => exact (Kd.R_reads' HO110.out).2.1); rintro e w21 ⟨v112, rfl, ho0, hb⟩; refine ⟨_, rfl, ?_⟩; have n0_ := Aside0.mk (Kd.R_below (by (with_reducible repeat (first | apply Kd.R_alloc | apply Kd.R_drewN | apply Kd.R_drew)); exact HO110.out) hb); have n1_ := Aside0.mk (Kd.R_lower ho0 (below_size (by repeat (first | (with_reducible first | exact HB.out | apply below_alloc | apply pw_below_drewN | apply below_drew1) | exact HB.out)))); have n2_ := Aside0.mk (below_step (by repeat (first | (with_reducible first | exact HB.out | apply below_alloc | apply pw_below_drewN | apply below_drew1) | exact HB.out)) hb); clear HO110; clear HB; have HO110 := n0_; have HO113 := n1_; have HB := n2_; clear n0_ n1_ n2_; (try clear hb); (try clear hb2); (try clear hk); (try clear hi); (try clear ho0); obtain ⟨Ao22, co22, eo22⟩ := Kd.R_slice HO113.out; subst eo22; have p114 : 0 ≤ (0 : Int) := (by omega); have q114 : 0 < (t111.length : Int) := of_decide_eq_true (by first | (with_reducible assumption) | assumption); obtain ⟨ad114, e114, hx114_0, hx114_1, hx114_2, hx114_3⟩ := at_T30 (Kd.R_reads' HO113.out).2.2 0 p114 q114; (try rw [← Nbq4.out] at hx114_0); (try rw [← Nbq4.out] at hx114_1); (try rw [← Nbq4.out] at hx114_2); cases e114; have qi114 : (0 < t111.length) = True := eq_true (by omega); (try rw [show ((0 : Int)).toNat = 0 from rfl] at hx114_0); (try rw [show 0 * 4 = 0 from rfl] at hx114_0); (try rw [Addr.add_zero'] at hx114_0); (try rw [show ((0 : Int)).toNat = 0 from rfl] at hx114_1); (try rw [show 0 * 4 = 0 from rfl] at hx114_1); (try rw [Addr.add_zero'] at hx114_1); (try rw [show ((0 : Int)).toNat = 0 from rfl] at hx114_2); (try rw [show 0 * 4 = 0 from rfl] at hx114_2); (try rw [Addr.add_zero'] at hx114_2); (try rw [show ((0 : Int)).toNat = 0 from rfl] at hx114_3); (try rw [show 0 * 4 = 0 from rfl] at hx114_3); (try rw [Addr.add_zero'] at hx114_3); replace p114 := eq_true p114; replace q114 := eq_true q114))
        go_ret
        exact ⟨by first | rfl | (simp [errW_none, errW_some] <;> rfl) | (simp [*, errW_none, errW_some] <;> rfl), by repeat (first | (with_reducible first | exact HB.out | apply below_alloc | apply pw_below_drewN | apply below_drew1) | exact HB.out)⟩
    · rw [if_neg c3] at H
      exact absurd H (by simp)
  · rw [if_neg c2] at H
    have c2b0 : ((t111.length : Int) == 2) = false := beq_eq_false_iff_ne.mpr c2
    have c2b1 : ((t111.length : Int) != 2) = true := bne_iff_ne.mpr c2
    obtain rfl := Option.some.inj H
    go_enter Tryd.func7, Tryd.ntmps7
    go_wp2_with (first | ((with_reducible refine gate_dst (N := 4) rfl ?_); refine Kd.R_lit k28 _ 28 ?hg (N := 4) ?hd (xs := ([(⟨4, (⟨#[98]⟩ : ByteArray), true, false, false, false⟩ : S28), (⟨2, (⟨#[98]⟩ : ByteArray), false, false, false, false⟩ : S28)] : List (S28))) (inner := [.int .i64 4, .string (⟨#[98]⟩ : ByteArray), .bool true, .bool false, .bool false, .bool false, .int .i64 2, .string (⟨#[98]⟩ : ByteArray), .bool false, .bool false, .bool false, .bool false]) (ok := fun _ => True) (okp := fun _ => True) ?hr ?hp (fun _ hk => hk) trivial (Below.refl _ _) (Nat.le_refl _) (by simp) ?_; (case hd => rfl); (case hg => rfl); (case hr => first | (go_simp; done) | (go_simp; rfl)); (case hp => exact (Reps.c6 (show Kd.M k28 _ _ _ (⟨4, (⟨#[98]⟩ : ByteArray), true, false, false, false⟩ : S28) [.int .i64 4, .string (⟨#[98]⟩ : ByteArray), .bool true, .bool false, .bool false, .bool false] from (k28_mkM _ _ _ (⟨4, (⟨#[98]⟩ : ByteArray), true, false, false, false⟩ : S28) )) (Reps.c6 (show Kd.M k28 _ _ _ (⟨2, (⟨#[98]⟩ : ByteArray), false, false, false, false⟩ : S28) [.int .i64 2, .string (⟨#[98]⟩ : ByteArray), .bool false, .bool false, .bool false, .bool false] from (k28_mkM _ _ _ (⟨2, (⟨#[98]⟩ : ByteArray), false, false, false, false⟩ : S28) )) (Reps.none _ _)))); intro v109 w23 ho24 hb hg_ hnew_; clear hg_ hnew_; (first | rw [← Ny108.out] at ho24 | (simp only [Int.reduceToNat] at ho24; rw [← Ny108.out] at ho24)); have n0_ := Aside0.mk (Kd.R_lower ho24 (below_size (by repeat (first | (with_reducible first | exact HB.out | apply below_alloc | apply pw_below_drewN | apply below_drew1) | exact HB.out)))); have n1_ := Aside0.mk (below_step (by repeat (first | (with_reducible first | exact HB.out | apply below_alloc | apply pw_below_drewN | apply below_drew1) | exact HB.out)) hb); clear HB; have HO110 := n0_; have HB := n1_; clear n0_ n1_; clear hb ho24; obtain ⟨Ao25, co25, eo25⟩ := Kd.R_slice HO110.out; subst eo25) | ((with_reducible refine gate_callee (f := 8) rfl ?_); refine goesL_ (some 5) rfl rfl Tryd.func8 (by kernel_rfl) rfl #[.slice Ao25 y108.length co25] rfl (by (try simp only [List.map_toArray, List.map_cons, List.map_nil]); first | done | rfl | (simp only [List.length_drop, List.length_take]; rfl)) ?_; (with_reducible refine (impl_BucketSteps.calls _ _ y108 t111 _ (hL.below (by repeat (first | (with_reducible first | exact HB.out | apply below_alloc | apply pw_below_drewN | apply below_drew1) | exact HB.out))) ?side1 ?side2 A1.out).mono ?_); (case side1 => repeat (first | exact (Kd.R_reads' HO110.out).2.2 | (with_reducible refine Kd.C_alloc ?_ _) | (with_reducible refine Kd.C_drewN ?_ _) | (with_reducible refine Kd.C_drew ?_))); (case side2 => exact (Kd.R_reads' HO110.out).2.1); rintro e w26 ⟨v112, rfl, ho0, hb⟩; refine ⟨_, rfl, ?_⟩; have n0_ := Aside0.mk (Kd.R_below (by (with_reducible repeat (first | apply Kd.R_alloc | apply Kd.R_drewN | apply Kd.R_drew)); exact HO110.out) hb); have n1_ := Aside0.mk (Kd.R_lower ho0 (below_size (by repeat (first | (with_reducible first | exact HB.out | apply below_alloc | apply pw_below_drewN | apply below_drew1) | exact HB.out)))); have n2_ := Aside0.mk (below_step (by repeat (first | (with_reducible first | exact HB.out | apply below_alloc | apply pw_below_drewN | apply below_drew1) | exact HB.out)) hb); clear HO110; clear HB; have HO110 := n0_; have HO113 := n1_; have HB := n2_; clear n0_ n1_ n2_; (try clear hb); (try clear hb2); (try clear hk); (try clear hi); (try clear ho0); obtain ⟨Ao27, co27, eo27⟩ := Kd.R_slice HO113.out; subst eo27))
    go_ret
    exact ⟨by first | rfl | (simp [errW_none, errW_some] <;> rfl) | (simp [*, errW_none, errW_some] <;> rfl), by repeat (first | (with_reducible first | exact HB.out | apply below_alloc | apply pw_below_drewN | apply below_drew1) | exact HB.out)⟩

/-! ### laws_bucketSame: function 9 -/
def laws_bucketSame.l0 : Nat → List (S30) → List (S30) → Int → Int → Option (Bool)
  | 0, _, _, _, _ => none
  | k + 1, x0, x1, x12, x13 => if x13 < x12 then (if 0 ≤ x13 then (if x13 < (x0.length : Int) then (if x13 < (x1.length : Int) then (if (!(((rd_T30 x0 x13).f0) == ((rd_T30 x1 x13).f0)) || (!(((rd_T30 x0 x13).f1) == ((rd_T30 x1 x13).f1)) || (!(((rd_T30 x0 x13).f2) == ((rd_T30 x1 x13).f2)) || (!(((rd_T30 x0 x13).f3) == ((rd_T30 x1 x13).f3)))))) = true then (some false) else (laws_bucketSame.l0 k x0 x1 x12 (wrap64 (x13 + 1)))) else (none)) else (none)) else (none)) else (some true)
def laws_bucketSame.f (k : Nat) (l0 : List (S30)) (l1 : List (S30)) : Option (Bool) := if (l0.length : Int) = (l1.length : Int) then (laws_bucketSame.l0 k l0 l1 (l0.length : Int) 0) else (some false)
theorem laws_bucketSame.mono_l : ∀ k, (∀ y0 y1 y2 y3, LeO (laws_bucketSame.l0 k y0 y1 y2 y3) (laws_bucketSame.l0 (k + 1) y0 y1 y2 y3))
  | 0 => fun _ _ _ _ r h => by simp [laws_bucketSame.l0] at h
  | k + 1 => by
    have ih0 := laws_bucketSame.mono_l k
    · intro y0 y1 y2 y3
      unfold laws_bucketSame.l0
      repeat' first
      | (with_reducible exact ih0 _ _ _ _)
      | (with_reducible exact LeO.refl _)
      | (with_reducible exact LeO.none _)
      | (with_reducible refine LeO.ite ?_ ?_)
      | (with_reducible refine LeO.bind ?_ (fun _ => ?_))
      | exact ih0 _ _ _ _
      | exact LeO.none _
      | refine LeO.ite ?_ ?_
      | refine LeO.bind ?_ (fun _ => ?_)
theorem laws_bucketSame.mono : ∀ a0 a1 k, LeO (laws_bucketSame.f k a0 a1) (laws_bucketSame.f (k + 1) a0 a1) := by
  intro a0 a1 k
  have ih0 := laws_bucketSame.mono_l k
  unfold laws_bucketSame.f
  repeat' first
      | (with_reducible exact ih0 _ _ _ _)
      | (with_reducible exact LeO.refl _)
      | (with_reducible exact LeO.none _)
      | (with_reducible refine LeO.ite ?_ ?_)
      | (with_reducible refine LeO.bind ?_ (fun _ => ?_))
      | exact ih0 _ _ _ _
      | exact LeO.none _
      | refine LeO.ite ?_ ?_
      | refine LeO.bind ?_ (fun _ => ?_)
set_option maxHeartbeats 8000000 in
set_option maxRecDepth 100000 in
theorem laws_bucketSame.calls (k : Nat) (A0 : Option Addr) (c0 : Nat) (l0 : List (S30)) (A1 : Option Addr) (c1 : Nat) (l1 : List (S30)) (r : Bool) (w : World) (hr0 : Kd.C k30 w A0 l0.length l0) (hc0 : l0.length ≤ c0) (hr1 : Kd.C k30 w A1 l1.length l1) (hc1 : l1.length ≤ c1) (h : laws_bucketSame.f k l0 l1 = some r) :
    Calls Tryd.prog 9 #[.slice A0 l0.length c0, .slice A1 l1.length c1] w fun e w' => e = .returned (.bool r) ∧ Drawn0 w w' := by
  have hu30 := Tryd.underlying30
  have HR0 := Aside0.mk hr0
  have HC0 := Aside0.mk hc0
  clear hr0 hc0
  have HR1 := Aside0.mk hr1
  have HC1 := Aside0.mk hc1
  clear hr1 hc1
  have H : (if (l0.length : Int) = (l1.length : Int) then (laws_bucketSame.l0 k l0 l1 (l0.length : Int) 0) else (some false)) = some r := h
  clear h
  by_cases c3 : (l0.length : Int) = (l1.length : Int)
  · rw [if_pos c3] at H
    have c3b0 : ((l0.length : Int) == (l1.length : Int)) = true := beq_iff_eq.mpr c3
    have c3b1 : ((l0.length : Int) != (l1.length : Int)) = false := bne_eq_false_iff_eq.mpr c3
    have c3b2 : (l0.length == l1.length) = true := by first | simpa using c3 | (simp at c3 ⊢; omega)
    clear c3
    have H' := Aside0.mk H
    clear H
    go_enter Tryd.func9, Tryd.ntmps9
    go_wp2
    repeat (go_quiet (fail); try go_wp2)
    go_loopg [13] k (fun kq v13 w' => ∃ (x13_1 : Int), v13 = .int .i64 x13_1 ∧ Aside0 (laws_bucketSame.l0 kq l0 l1 (l0.length : Int) x13_1 = some r) ∧ Aside0 (kq ≤ k) ∧ Drawn0 w w')
    case atStart => exact ⟨(0), (by first | rfl | (simp; done) | (simp [*]; done)), H', ⟨Nat.le_refl _⟩, by repeat (first | exact Drawn0.refl _ | apply Drawn0.step)⟩
    case round =>
      clear H'
      try clear c1
      try clear p2
      try clear c3
      try clear c3b0
      try clear c3b1
      try clear c3b2
      obtain ⟨x13_1, rfl, HA, HK1, ⟨m1, rfl⟩⟩ := hrel
      cases gk with
      | zero => exact absurd HA.out (by simp [laws_bucketSame.l0])
      | succ k1 =>
        have H := HA.out
        clear HA
        simp only [laws_bucketSame.l0] at H
        by_cases c4 : x13_1 < (l0.length : Int)
        · rw [if_pos c4] at H
          have c4b0 : decide (x13_1 < (l0.length : Int)) = true := decide_eq_true c4
          clear c4
          by_cases c5 : 0 ≤ x13_1
          · rw [if_pos c5] at H
            have c5b0 : decide (0 ≤ x13_1) = true := decide_eq_true c5
            clear c5
            by_cases c6 : x13_1 < (l0.length : Int)
            · rw [if_pos c6] at H
              have c6b0 : decide (x13_1 < (l0.length : Int)) = true := decide_eq_true c6
              clear c6
              by_cases c7 : x13_1 < (l1.length : Int)
              · rw [if_pos c7] at H
                have c7b0 : decide (x13_1 < (l1.length : Int)) = true := decide_eq_true c7
                clear c7
                by_cases c8 : (!(((rd_T30 l0 x13_1).f0) == ((rd_T30 l1 x13_1).f0)) || (!(((rd_T30 l0 x13_1).f1) == ((rd_T30 l1 x13_1).f1)) || (!(((rd_T30 l0 x13_1).f2) == ((rd_T30 l1 x13_1).f2)) || (!(((rd_T30 l0 x13_1).f3) == ((rd_T30 l1 x13_1).f3)))))) = true
                · rw [if_pos c8] at H
                  have c8b0 : (!(((rd_T30 l0 x13_1).f0) == ((rd_T30 l1 x13_1).f0)) || (!(((rd_T30 l0 x13_1).f1) == ((rd_T30 l1 x13_1).f1)) || (!(((rd_T30 l0 x13_1).f2) == ((rd_T30 l1 x13_1).f2)) || (!(((rd_T30 l0 x13_1).f3) == ((rd_T30 l1 x13_1).f3)))))) = true := c8
                  clear c8
                  obtain rfl := Option.some.inj H
                  have p117 : 0 ≤ (x13_1 : Int) := of_decide_eq_true (by first | (with_reducible assumption) | assumption)
                  have q117 : x13_1 < (l0.length : Int) := of_decide_eq_true (by first | (with_reducible assumption) | assumption)
                  obtain ⟨ad117, e117, hx117_0, hx117_1, hx117_2, hx117_3⟩ := at_T30 HR0.out x13_1 p117 q117
                  cases e117
                  replace p117 := eq_true p117
                  replace q117 := eq_true q117
                  have p118 : 0 ≤ (x13_1 : Int) := of_decide_eq_true (by first | (with_reducible assumption) | assumption)
                  have q118 : x13_1 < (l1.length : Int) := of_decide_eq_true (by first | (with_reducible assumption) | assumption)
                  obtain ⟨ad118, e118, hx118_0, hx118_1, hx118_2, hx118_3⟩ := at_T30 HR1.out x13_1 p118 q118
                  cases e118
                  replace p118 := eq_true p118
                  replace q118 := eq_true q118
                  go_wp2
                  repeat (go_quiet (fail); try go_wp2)
                  go_ret
                  exact ⟨by first | rfl | (simp; done) | (simp [*]; done), by repeat (first | exact Drawn0.refl _ | apply Drawn0.step)⟩
                · rw [if_neg c8] at H
                  have c8b0 : (!(((rd_T30 l0 x13_1).f0) == ((rd_T30 l1 x13_1).f0)) || (!(((rd_T30 l0 x13_1).f1) == ((rd_T30 l1 x13_1).f1)) || (!(((rd_T30 l0 x13_1).f2) == ((rd_T30 l1 x13_1).f2)) || (!(((rd_T30 l0 x13_1).f3) == ((rd_T30 l1 x13_1).f3)))))) = false := by simpa using c8
                  clear c8
                  have H' := Aside0.mk H
                  clear H
                  have p117 : 0 ≤ (x13_1 : Int) := of_decide_eq_true (by first | (with_reducible assumption) | assumption)
                  have q117 : x13_1 < (l0.length : Int) := of_decide_eq_true (by first | (with_reducible assumption) | assumption)
                  obtain ⟨ad117, e117, hx117_0, hx117_1, hx117_2, hx117_3⟩ := at_T30 HR0.out x13_1 p117 q117
                  cases e117
                  replace p117 := eq_true p117
                  replace q117 := eq_true q117
                  have p118 : 0 ≤ (x13_1 : Int) := of_decide_eq_true (by first | (with_reducible assumption) | assumption)
                  have q118 : x13_1 < (l1.length : Int) := of_decide_eq_true (by first | (with_reducible assumption) | assumption)
                  obtain ⟨ad118, e118, hx118_0, hx118_1, hx118_2, hx118_3⟩ := at_T30 HR1.out x13_1 p118 q118
                  cases e118
                  replace p118 := eq_true p118
                  replace q118 := eq_true q118
                  go_wp2
                  repeat (go_quiet (fail); try go_wp2)
                  go_roundg k1
                  case measure => have := HK1.out; omega
                  case rel => exact ⟨(wrap64 (x13_1 + 1)), (by first | rfl | (simp; done) | (simp [*]; done)), H', ⟨by have := HK1.out; omega⟩, by repeat (first | exact Drawn0.refl _ | apply Drawn0.step)⟩
              · rw [if_neg c7] at H
                exact absurd H (by simp)
            · rw [if_neg c6] at H
              exact absurd H (by simp)
          · rw [if_neg c5] at H
            exact absurd H (by simp)
        · rw [if_neg c4] at H
          have c4b0 : decide (x13_1 < (l0.length : Int)) = false := decide_eq_false c4
          clear c4
          obtain rfl := Option.some.inj H
          go_wp2
          repeat (go_quiet (fail); try go_wp2)
          go_ret
          exact ⟨by first | rfl | (simp; done) | (simp [*]; done), by repeat (first | exact Drawn0.refl _ | apply Drawn0.step)⟩
  · rw [if_neg c3] at H
    have c3b0 : ((l0.length : Int) == (l1.length : Int)) = false := beq_eq_false_iff_ne.mpr c3
    have c3b1 : ((l0.length : Int) != (l1.length : Int)) = true := bne_iff_ne.mpr c3
    have c3b2 : (l0.length == l1.length) = false := by first | simpa using c3 | (simp at c3 ⊢; omega)
    obtain rfl := Option.some.inj H
    go_enter Tryd.func9, Tryd.ntmps9
    go_wp2
    repeat (go_quiet (fail); try go_wp2)
    go_ret
    exact ⟨by first | rfl | (simp; done) | (simp [*]; done), by repeat (first | exact Drawn0.refl _ | apply Drawn0.step)⟩

-- NOT PRINTED: function 3 (laws_FnBucketAsks)

-- NOT PRINTED: function 21 (spec_Buckets_of)

-- NOT PRINTED: function 22 (spec_Buckets_set)

-- NOT PRINTED: function 10 (spec_Buckets_Step)

-- NOT PRINTED: function 4 (laws_FnBucketSteps)

end Go.Proofs.YtcomnkbkkpeilaaDoor.PA
