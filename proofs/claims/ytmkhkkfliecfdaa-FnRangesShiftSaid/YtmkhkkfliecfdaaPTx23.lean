-- Written by a program of this session. -- slim
import Derived.Test.YtmkhkkfliecfdaaPTx20
namespace Go.Proofs.Ytmkhkkfliecfdaa.PT
open Go.RowKit Go.Proofs.YtmkhkkfliecfdaaW.PrintWords Go.Proofs.YtmkhkkfliecfdaaW.PrintLast Go.Proofs.Ytmkhkkfliecfdaa.Given Go.Proofs.Ytmkhkkfliecfdaa.Mm
attribute [local go_sem] mx_go mn_go
set_option linter.unusedVariables false
set_option linter.unusedSimpArgs false

attribute [local go_sem high] idx70
/-! ### spec_RangeHas: function 37 -/
def spec_RangeHas.l0 : Nat → Int → List (S24) → Int → Int → Option (Bool)
 | 0, _, _, _, _ => none
 | k + 1, x1, x7, x8, x9 => if x9 < x8 then (if 0 ≤ x9 then (if x9 < (x7.length : Int) then (if ((rd_T24 x7 x9).f0) ≤ x1 then (if (wrap64 (x1 - ((rd_T24 x7 x9).f0))) < ((rd_T24 x7 x9).f1) then (some true) else (spec_RangeHas.l0 k x1 x7 x8 (wrap64 (x9 + 1)))) else (spec_RangeHas.l0 k x1 x7 x8 (wrap64 (x9 + 1)))) else (none)) else (none)) else (some false)
def spec_RangeHas.f (k : Nat) (l0 : List (S24)) (a1 : Int) : Option (Bool) := spec_RangeHas.l0 k a1 l0 (l0.length : Int) 0
theorem spec_RangeHas.mono_l : ∀ k, (∀ y0 y1 y2 y3, LeO (spec_RangeHas.l0 k y0 y1 y2 y3) (spec_RangeHas.l0 (k + 1) y0 y1 y2 y3))
 | 0 => fun _ _ _ _ r h => by simp [spec_RangeHas.l0] at h
 | k + 1 => by
  have ih0 := spec_RangeHas.mono_l k
  ·intro y0 y1 y2 y3
   unfold spec_RangeHas.l0
   repeat' first
   | (with_reducible exact ih0 _ _ _ _)
   | (with_reducible exact LeO.refl _)
   | (with_reducible exact LeO.none _)
   | (with_reducible refine LeO.ite ?_ ?_)
   | (with_reducible refine LeO.bind ?_ (fun _ => ?_))
   | exact ih0 _ _ _ _
   | exact LeO.none _
   | refine LeO.ite ?_ ?_
   | refine LeO.bind ?_ (fun _ => ?_)
theorem spec_RangeHas.mono : ∀ a0 a1 k, LeO (spec_RangeHas.f k a0 a1) (spec_RangeHas.f (k + 1) a0 a1) := by
 intro a0 a1 k
 have ih0 := spec_RangeHas.mono_l k
 unfold spec_RangeHas.f
 repeat' first
   | (with_reducible exact ih0 _ _ _ _)
   | (with_reducible exact LeO.refl _)
   | (with_reducible exact LeO.none _)
   | (with_reducible refine LeO.ite ?_ ?_)
   | (with_reducible refine LeO.bind ?_ (fun _ => ?_))
   | exact ih0 _ _ _ _
   | exact LeO.none _
   | refine LeO.ite ?_ ?_
   | refine LeO.bind ?_ (fun _ => ?_)
set_option maxHeartbeats 8000000 in
set_option maxRecDepth 100000 in
theorem spec_RangeHas.calls (k : Nat) (A0 : Option Addr) (c0 : Nat) (l0 : List (S24)) (a1 : Int) (r : Bool) (w : World) (hr0 : Kd.C k24 w A0 l0.length l0) (hc0 : l0.length ≤ c0) (h : spec_RangeHas.f k l0 a1 = some r) :
  Calls Try.prog 37 #[.slice A0 l0.length c0, .int .i64 a1] w fun e w' => e = .returned (.bool r) ∧ Below w.heap.size w w' := by
 have hu24 := Try.underlying24
 have HR0 := Aside0.mk hr0
 have HC0 := Aside0.mk hc0
 clear hr0 hc0
 have HB := Aside0.mk (Below.refl w.heap.size w)
 have H : (spec_RangeHas.l0 k a1 l0 (l0.length : Int) 0) = some r := h
 clear h
 have H' := Aside0.mk H
 clear H
 go_enter Try.func37, Try.ntmps37
 go_wp2
 go_loopg [9] k (fun kq v9 w' => ∃ (x9_1 : Int), v9 = .int .i64 x9_1 ∧ Aside0 (spec_RangeHas.l0 kq a1 l0 (l0.length : Int) x9_1 = some r) ∧ Aside0 (kq ≤ k) ∧ Aside0 (Below w.heap.size w w'))
 case atStart => exact ⟨(0), (by first | rfl | (simp; done) | (simp [*]; done)), H', ⟨Nat.le_refl _⟩, ⟨by repeat (first | (with_reducible first | exact HB.out | apply below_alloc | apply pw_below_drewN | apply below_drew1) | exact HB.out)⟩⟩
 case round =>
  clear H'
  try clear p2
  obtain ⟨x9_1, rfl, HA, HK1, HB⟩ := hrel
  cases gk with
  | zero => exact absurd HA.out (by simp [spec_RangeHas.l0])
  | succ k1 =>
   have H := HA.out
   clear HA
   simp only [spec_RangeHas.l0] at H
   by_cases c3 : x9_1 < (l0.length : Int)
   ·rw [if_pos c3] at H
    have c3b0 : decide (x9_1 < (l0.length : Int)) = true := decide_eq_true c3
    clear c3
    by_cases c4 : 0 ≤ x9_1
    ·rw [if_pos c4] at H
     have c4b0 : decide (0 ≤ x9_1) = true := decide_eq_true c4
     clear c4
     by_cases c5 : x9_1 < (l0.length : Int)
     ·rw [if_pos c5] at H
      have c5b0 : decide (x9_1 < (l0.length : Int)) = true := decide_eq_true c5
      clear c5
      by_cases c6 : ((rd_T24 l0 x9_1).f0) ≤ a1
      ·rw [if_pos c6] at H
       have c6b0 : decide (((rd_T24 l0 x9_1).f0) ≤ a1) = true := decide_eq_true c6
       clear c6
       by_cases c7 : (wrap64 (a1 - ((rd_T24 l0 x9_1).f0))) < ((rd_T24 l0 x9_1).f1)
       ·rw [if_pos c7] at H
        have c7b0 : decide ((wrap64 (a1 - ((rd_T24 l0 x9_1).f0))) < ((rd_T24 l0 x9_1).f1)) = true := decide_eq_true c7
        clear c7
        obtain rfl := Option.some.inj H
        have p238 : 0 ≤ (x9_1 : Int) := of_decide_eq_true (by first | (with_reducible assumption) | assumption)
        have q238 : x9_1 < (l0.length : Int) := of_decide_eq_true (by first | (with_reducible assumption) | assumption)
        obtain ⟨ad238, e238, hx238_0, hx238_1⟩ := at_T24 HR0.out x9_1 p238 q238
        cases e238
        replace hx238_0 := (HB.out.cell (World.block_lt_of_cell? w _ hx238_0)).trans hx238_0
        replace hx238_1 := (HB.out.cell (World.block_lt_of_cell? w _ hx238_1)).trans hx238_1
        replace p238 := eq_true p238
        replace q238 := eq_true q238
        go_wp2_with (first | ((with_reducible refine gate_dst (N := 6) rfl ?_); refine box_event ?hg (N := 6) ?hd (cs := #[.int .i64 0, .int .i64 0]) (t := 24) ?hr ?_; (case hd => rfl); (case hg => rfl); (case hr => first | (go_simp; done) | (go_simp; rfl)); intro gb239 hg w8 hbox hb; have n0_ := Aside0.mk (below_step (by repeat (first | (with_reducible first | exact HB.out | apply below_alloc | apply pw_below_drewN | apply below_drew1) | exact HB.out)) hb); have n1_ := Aside0.mk (hbox); have n2_ := Aside0.mk ((by rw [hg]; exact (below_size (by repeat (first | (with_reducible first | exact HB.out | apply below_alloc | apply pw_below_drewN | apply below_drew1) | exact HB.out))) : w.heap.size ≤ gb239)); have n3_ := Aside0.mk ((by rw [hg]; exact (below_size (by repeat (first | (with_reducible first | exact HB.out | apply below_alloc | apply pw_below_drewN | apply below_drew1) | exact HB.out))) : w.heap.size ≤ gb239)); clear HB; have HB := n0_; have BK239 := n1_; have GW239 := n2_; have GE239 := n3_; clear n0_ n1_ n2_ n3_; clear hb hbox hg; have hcz9_0 : w8.cell? ⟨gb239, 0, none⟩ = some (.int .i64 0) := (blk_cell BK239.out 0).trans rfl; have hcz9_1 : w8.cell? ⟨gb239, 1, none⟩ = some (.int .i64 0) := (blk_cell BK239.out 1).trans rfl; have hfz9_0 := blk_frozen BK239.out 0; have hfz9_1 := blk_frozen BK239.out 1))
        go_ret
        exact ⟨by first | rfl | (simp [errW_none, errW_some] <;> rfl) | (simp [*, errW_none, errW_some] <;> rfl), by repeat (first | (with_reducible first | exact HB.out | apply below_alloc | apply pw_below_drewN | apply below_drew1 | refine below_set ?_ GE239.out) | exact HB.out)⟩
       ·rw [if_neg c7] at H
        have c7b0 : decide ((wrap64 (a1 - ((rd_T24 l0 x9_1).f0))) < ((rd_T24 l0 x9_1).f1)) = false := decide_eq_false c7
        clear c7
        have H' := Aside0.mk H
        clear H
        have p238 : 0 ≤ (x9_1 : Int) := of_decide_eq_true (by first | (with_reducible assumption) | assumption)
        have q238 : x9_1 < (l0.length : Int) := of_decide_eq_true (by first | (with_reducible assumption) | assumption)
        obtain ⟨ad238, e238, hx238_0, hx238_1⟩ := at_T24 HR0.out x9_1 p238 q238
        cases e238
        replace hx238_0 := (HB.out.cell (World.block_lt_of_cell? w _ hx238_0)).trans hx238_0
        replace hx238_1 := (HB.out.cell (World.block_lt_of_cell? w _ hx238_1)).trans hx238_1
        replace p238 := eq_true p238
        replace q238 := eq_true q238
        go_wp2_with (first | ((with_reducible refine gate_dst (N := 6) rfl ?_); refine box_event ?hg (N := 6) ?hd (cs := #[.int .i64 0, .int .i64 0]) (t := 24) ?hr ?_; (case hd => rfl); (case hg => rfl); (case hr => first | (go_simp; done) | (go_simp; rfl)); intro gb239 hg w10 hbox hb; have n0_ := Aside0.mk (below_step (by repeat (first | (with_reducible first | exact HB.out | apply below_alloc | apply pw_below_drewN | apply below_drew1) | exact HB.out)) hb); have n1_ := Aside0.mk (hbox); have n2_ := Aside0.mk ((by rw [hg]; exact (below_size (by repeat (first | (with_reducible first | exact HB.out | apply below_alloc | apply pw_below_drewN | apply below_drew1) | exact HB.out))) : w.heap.size ≤ gb239)); have n3_ := Aside0.mk ((by rw [hg]; exact (below_size (by repeat (first | (with_reducible first | exact HB.out | apply below_alloc | apply pw_below_drewN | apply below_drew1) | exact HB.out))) : w.heap.size ≤ gb239)); clear HB; have HB := n0_; have BK239 := n1_; have GW239 := n2_; have GE239 := n3_; clear n0_ n1_ n2_ n3_; clear hb hbox hg; have hcz11_0 : w10.cell? ⟨gb239, 0, none⟩ = some (.int .i64 0) := (blk_cell BK239.out 0).trans rfl; have hcz11_1 : w10.cell? ⟨gb239, 1, none⟩ = some (.int .i64 0) := (blk_cell BK239.out 1).trans rfl; have hfz11_0 := blk_frozen BK239.out 0; have hfz11_1 := blk_frozen BK239.out 1))
        go_roundg k1
        case measure => have := HK1.out; omega
        case rel => exact ⟨(wrap64 (x9_1 + 1)), (by first | rfl | (simp; done) | (simp [*]; done)), H', ⟨by have := HK1.out; omega⟩, ⟨by repeat (first | (with_reducible first | exact HB.out | apply below_alloc | apply pw_below_drewN | apply below_drew1 | refine below_set ?_ GE239.out) | exact HB.out)⟩⟩
      ·rw [if_neg c6] at H
       have c6b0 : decide (((rd_T24 l0 x9_1).f0) ≤ a1) = false := decide_eq_false c6
       clear c6
       have H' := Aside0.mk H
       clear H
       have p238 : 0 ≤ (x9_1 : Int) := of_decide_eq_true (by first | (with_reducible assumption) | assumption)
       have q238 : x9_1 < (l0.length : Int) := of_decide_eq_true (by first | (with_reducible assumption) | assumption)
       obtain ⟨ad238, e238, hx238_0, hx238_1⟩ := at_T24 HR0.out x9_1 p238 q238
       cases e238
       replace hx238_0 := (HB.out.cell (World.block_lt_of_cell? w _ hx238_0)).trans hx238_0
       replace hx238_1 := (HB.out.cell (World.block_lt_of_cell? w _ hx238_1)).trans hx238_1
       replace p238 := eq_true p238
       replace q238 := eq_true q238
       go_wp2_with (first | ((with_reducible refine gate_dst (N := 6) rfl ?_); refine box_event ?hg (N := 6) ?hd (cs := #[.int .i64 0, .int .i64 0]) (t := 24) ?hr ?_; (case hd => rfl); (case hg => rfl); (case hr => first | (go_simp; done) | (go_simp; rfl)); intro gb239 hg w12 hbox hb; have n0_ := Aside0.mk (below_step (by repeat (first | (with_reducible first | exact HB.out | apply below_alloc | apply pw_below_drewN | apply below_drew1) | exact HB.out)) hb); have n1_ := Aside0.mk (hbox); have n2_ := Aside0.mk ((by rw [hg]; exact (below_size (by repeat (first | (with_reducible first | exact HB.out | apply below_alloc | apply pw_below_drewN | apply below_drew1) | exact HB.out))) : w.heap.size ≤ gb239)); have n3_ := Aside0.mk ((by rw [hg]; exact (below_size (by repeat (first | (with_reducible first | exact HB.out | apply below_alloc | apply pw_below_drewN | apply below_drew1) | exact HB.out))) : w.heap.size ≤ gb239)); clear HB; have HB := n0_; have BK239 := n1_; have GW239 := n2_; have GE239 := n3_; clear n0_ n1_ n2_ n3_; clear hb hbox hg; have hcz13_0 : w12.cell? ⟨gb239, 0, none⟩ = some (.int .i64 0) := (blk_cell BK239.out 0).trans rfl; have hcz13_1 : w12.cell? ⟨gb239, 1, none⟩ = some (.int .i64 0) := (blk_cell BK239.out 1).trans rfl; have hfz13_0 := blk_frozen BK239.out 0; have hfz13_1 := blk_frozen BK239.out 1))
       go_roundg k1
       case measure => have := HK1.out; omega
       case rel => exact ⟨(wrap64 (x9_1 + 1)), (by first | rfl | (simp; done) | (simp [*]; done)), H', ⟨by have := HK1.out; omega⟩, ⟨by repeat (first | (with_reducible first | exact HB.out | apply below_alloc | apply pw_below_drewN | apply below_drew1 | refine below_set ?_ GE239.out) | exact HB.out)⟩⟩
     ·rw [if_neg c5] at H
      exact absurd H (by simp)
    ·rw [if_neg c4] at H
     exact absurd H (by simp)
   ·rw [if_neg c3] at H
    have c3b0 : decide (x9_1 < (l0.length : Int)) = false := decide_eq_false c3
    clear c3
    obtain rfl := Option.some.inj H
    go_wp2
    go_ret
    exact ⟨by first | rfl | (simp [errW_none, errW_some] <;> rfl) | (simp [*, errW_none, errW_some] <;> rfl), by repeat (first | (with_reducible first | exact HB.out | apply below_alloc | apply pw_below_drewN | apply below_drew1) | exact HB.out)⟩

end Go.Proofs.Ytmkhkkfliecfdaa.PT
