-- Written by a program of this session. -- slim -- merged
import Derived.Test.YtmkhkkfliecfdaaPTxk
import Derived.Test.YtmkhkkfliecfdaaGivenA
import Derived.Test.YtmkhkkfliecfdaaGivenB
import Derived.Test.YtmkhkkfliecfdaaGivenC
import Derived.Test.YtmkhkkfliecfdaaGivenD
namespace Go.Proofs.Ytmkhkkfliecfdaa.PT
open Go.RowKit Go.Proofs.YtmkhkkfliecfdaaW.PrintWords Go.Proofs.YtmkhkkfliecfdaaW.PrintLast Go.Proofs.Ytmkhkkfliecfdaa.Given Go.Proofs.Ytmkhkkfliecfdaa.Mm
attribute [local go_sem] mx_go mn_go
set_option linter.unusedVariables false
set_option linter.unusedSimpArgs false

attribute [local go_sem high] idx70
end Go.Proofs.Ytmkhkkfliecfdaa.PT

namespace Go.Proofs.Ytmkhkkfliecfdaa.PT
open Go.RowKit Go.Proofs.YtmkhkkfliecfdaaW.PrintWords Go.Proofs.YtmkhkkfliecfdaaW.PrintLast Go.Proofs.Ytmkhkkfliecfdaa.Given Go.Proofs.Ytmkhkkfliecfdaa.Mm
attribute [local go_sem] mx_go mn_go
set_option linter.unusedVariables false
set_option linter.unusedSimpArgs false

attribute [local go_sem high] idx70
theorem eqA24 (d : Nat) (w : World) (x0 y0 : Int) (x1 y1 : Int) :
  (Op.equalIn (d + 2) 24 (.agg #[.int .i64 x0, .int .i64 x1]) (.agg #[.int .i64 y0, .int .i64 y1])).run Try.prog w = .ok (x0 == y0 && (x1 == y1)) w := by
 refine eqA_of Try.underlying24 (by kernel_rfl) ?_
 refine eqf_cons (by rfl) (by go_simp; rfl) (by go_simp; rfl) (by go_simp) ?_
 exact eqf_last (by rfl) (by go_simp; rfl) (by go_simp; rfl) (by go_simp)
end Go.Proofs.Ytmkhkkfliecfdaa.PT

namespace Go.Proofs.Ytmkhkkfliecfdaa.PT
open Go.RowKit Go.Proofs.YtmkhkkfliecfdaaW.PrintWords Go.Proofs.YtmkhkkfliecfdaaW.PrintLast Go.Proofs.Ytmkhkkfliecfdaa.Given Go.Proofs.Ytmkhkkfliecfdaa.Mm
attribute [local go_sem] mx_go mn_go
set_option linter.unusedVariables false
set_option linter.unusedSimpArgs false

attribute [local go_sem high] idx70
theorem eqA31 (d : Nat) (w : World) (x0 y0 : Int) (x1 y1 : Int) (x2 y2 : Bool) :
  (Op.equalIn (d + 3) 31 (.agg #[.int .i64 x0, .int .i64 x1, .bool x2]) (.agg #[.int .i64 y0, .int .i64 y1, .bool y2])).run Try.prog w = .ok ((x0 == y0 && (x1 == y1)) && (x2 == y2)) w := by
 refine eqA_of Try.underlying31 (by kernel_rfl) ?_
 refine eqf_cons (by rfl) (by go_simp) (by go_simp) (eqA24 (d + 0) w _ _ _ _) ?_
 exact eqf_last (by rfl) (by go_simp; rfl) (by go_simp; rfl) (by go_simp)
end Go.Proofs.Ytmkhkkfliecfdaa.PT

namespace Go.Proofs.Ytmkhkkfliecfdaa.PT
open Go.RowKit Go.Proofs.YtmkhkkfliecfdaaW.PrintWords Go.Proofs.YtmkhkkfliecfdaaW.PrintLast Go.Proofs.Ytmkhkkfliecfdaa.Given Go.Proofs.Ytmkhkkfliecfdaa.Mm
attribute [local go_sem] mx_go mn_go
set_option linter.unusedVariables false
set_option linter.unusedSimpArgs false

attribute [local go_sem high] idx70
/-! ### spec_RangeIn: function 19 -/
def spec_RangeIn.f (a0_0 : Int) (a0_1 : Int) : Option (Bool) := if a0_1 ≥ (-1099511627776) then (if a0_1 ≤ 1099511627776 then (if a0_0 ≥ (-1099511627776) then (some (decide (a0_0 ≤ 1099511627776))) else (some false)) else (some false)) else (some false)
set_option maxHeartbeats 8000000 in
set_option maxRecDepth 100000 in
theorem spec_RangeIn.calls (a0_0 : Int) (a0_1 : Int) (r : Bool) (w : World) (h : spec_RangeIn.f a0_0 a0_1 = some r) :
  Calls Try.prog 19 #[.agg #[.int .i64 a0_0, .int .i64 a0_1]] w fun e w' => e = .returned (.bool r) ∧ Below w.heap.size w w' := by
 have hu24 := Try.underlying24
 have HB := Aside0.mk (Below.refl w.heap.size w)
 have H : (if a0_1 ≥ (-1099511627776) then (if a0_1 ≤ 1099511627776 then (if a0_0 ≥ (-1099511627776) then (some (decide (a0_0 ≤ 1099511627776))) else (some false)) else (some false)) else (some false)) = some r := h
 clear h
 by_cases c2 : a0_1 ≥ (-1099511627776)
 ·rw [if_pos c2] at H
  have c2b0 : decide ((-1099511627776) ≤ a0_1) = true := decide_eq_true c2
  clear c2
  by_cases c3 : a0_1 ≤ 1099511627776
  ·rw [if_pos c3] at H
   have c3b0 : decide (a0_1 ≤ 1099511627776) = true := decide_eq_true c3
   clear c3
   by_cases c4 : a0_0 ≥ (-1099511627776)
   ·rw [if_pos c4] at H
    have c4b0 : decide ((-1099511627776) ≤ a0_0) = true := decide_eq_true c4
    clear c4
    obtain rfl := Option.some.inj H
    go_enter Try.func19, Try.ntmps19
    go_wp2_with (first | ((with_reducible refine gate_dst (N := 1) rfl ?_); refine box_event ?hg (N := 1) ?hd (cs := #[.int .i64 a0_0, .int .i64 a0_1]) (t := 24) ?hr ?_; (case hd => rfl); (case hg => rfl); (case hr => first | (go_simp; done) | (go_simp; rfl)); intro gb101 hg w5 hbox hb; have n0_ := Aside0.mk (below_step (by repeat (first | (with_reducible first | exact HB.out | apply below_alloc | apply pw_below_drewN | apply below_drew1) | exact HB.out)) hb); have n1_ := Aside0.mk (hbox); have n2_ := Aside0.mk ((by rw [hg]; exact (below_size (by repeat (first | (with_reducible first | exact HB.out | apply below_alloc | apply pw_below_drewN | apply below_drew1) | exact HB.out))) : w.heap.size ≤ gb101)); have n3_ := Aside0.mk ((by rw [hg]; exact (below_size (by repeat (first | (with_reducible first | exact HB.out | apply below_alloc | apply pw_below_drewN | apply below_drew1) | exact HB.out))) : w.heap.size ≤ gb101)); clear HB; have HB := n0_; have BK101 := n1_; have GW101 := n2_; have GE101 := n3_; clear n0_ n1_ n2_ n3_; clear hb hbox hg; have hcz6_0 : w5.cell? ⟨gb101, 0, none⟩ = some (.int .i64 a0_0) := (blk_cell BK101.out 0).trans rfl; have hcz6_1 : w5.cell? ⟨gb101, 1, none⟩ = some (.int .i64 a0_1) := (blk_cell BK101.out 1).trans rfl; have hfz6_0 := blk_frozen BK101.out 0; have hfz6_1 := blk_frozen BK101.out 1))
    go_ret
    exact ⟨by first | rfl | (simp [errW_none, errW_some] <;> rfl) | (simp [*, errW_none, errW_some] <;> rfl), by repeat (first | (with_reducible first | exact HB.out | apply below_alloc | apply pw_below_drewN | apply below_drew1 | refine below_set ?_ GE101.out) | exact HB.out)⟩
   ·rw [if_neg c4] at H
    have c4b0 : decide ((-1099511627776) ≤ a0_0) = false := decide_eq_false c4
    clear c4
    obtain rfl := Option.some.inj H
    go_enter Try.func19, Try.ntmps19
    go_wp2_with (first | ((with_reducible refine gate_dst (N := 1) rfl ?_); refine box_event ?hg (N := 1) ?hd (cs := #[.int .i64 a0_0, .int .i64 a0_1]) (t := 24) ?hr ?_; (case hd => rfl); (case hg => rfl); (case hr => first | (go_simp; done) | (go_simp; rfl)); intro gb101 hg w7 hbox hb; have n0_ := Aside0.mk (below_step (by repeat (first | (with_reducible first | exact HB.out | apply below_alloc | apply pw_below_drewN | apply below_drew1) | exact HB.out)) hb); have n1_ := Aside0.mk (hbox); have n2_ := Aside0.mk ((by rw [hg]; exact (below_size (by repeat (first | (with_reducible first | exact HB.out | apply below_alloc | apply pw_below_drewN | apply below_drew1) | exact HB.out))) : w.heap.size ≤ gb101)); have n3_ := Aside0.mk ((by rw [hg]; exact (below_size (by repeat (first | (with_reducible first | exact HB.out | apply below_alloc | apply pw_below_drewN | apply below_drew1) | exact HB.out))) : w.heap.size ≤ gb101)); clear HB; have HB := n0_; have BK101 := n1_; have GW101 := n2_; have GE101 := n3_; clear n0_ n1_ n2_ n3_; clear hb hbox hg; have hcz8_0 : w7.cell? ⟨gb101, 0, none⟩ = some (.int .i64 a0_0) := (blk_cell BK101.out 0).trans rfl; have hcz8_1 : w7.cell? ⟨gb101, 1, none⟩ = some (.int .i64 a0_1) := (blk_cell BK101.out 1).trans rfl; have hfz8_0 := blk_frozen BK101.out 0; have hfz8_1 := blk_frozen BK101.out 1))
    go_ret
    exact ⟨by first | rfl | (simp [errW_none, errW_some] <;> rfl) | (simp [*, errW_none, errW_some] <;> rfl), by repeat (first | (with_reducible first | exact HB.out | apply below_alloc | apply pw_below_drewN | apply below_drew1 | refine below_set ?_ GE101.out) | exact HB.out)⟩
  ·rw [if_neg c3] at H
   have c3b0 : decide (a0_1 ≤ 1099511627776) = false := decide_eq_false c3
   clear c3
   obtain rfl := Option.some.inj H
   go_enter Try.func19, Try.ntmps19
   go_wp2_with (first | ((with_reducible refine gate_dst (N := 1) rfl ?_); refine box_event ?hg (N := 1) ?hd (cs := #[.int .i64 a0_0, .int .i64 a0_1]) (t := 24) ?hr ?_; (case hd => rfl); (case hg => rfl); (case hr => first | (go_simp; done) | (go_simp; rfl)); intro gb101 hg w9 hbox hb; have n0_ := Aside0.mk (below_step (by repeat (first | (with_reducible first | exact HB.out | apply below_alloc | apply pw_below_drewN | apply below_drew1) | exact HB.out)) hb); have n1_ := Aside0.mk (hbox); have n2_ := Aside0.mk ((by rw [hg]; exact (below_size (by repeat (first | (with_reducible first | exact HB.out | apply below_alloc | apply pw_below_drewN | apply below_drew1) | exact HB.out))) : w.heap.size ≤ gb101)); have n3_ := Aside0.mk ((by rw [hg]; exact (below_size (by repeat (first | (with_reducible first | exact HB.out | apply below_alloc | apply pw_below_drewN | apply below_drew1) | exact HB.out))) : w.heap.size ≤ gb101)); clear HB; have HB := n0_; have BK101 := n1_; have GW101 := n2_; have GE101 := n3_; clear n0_ n1_ n2_ n3_; clear hb hbox hg; have hcz10_0 : w9.cell? ⟨gb101, 0, none⟩ = some (.int .i64 a0_0) := (blk_cell BK101.out 0).trans rfl; have hcz10_1 : w9.cell? ⟨gb101, 1, none⟩ = some (.int .i64 a0_1) := (blk_cell BK101.out 1).trans rfl; have hfz10_0 := blk_frozen BK101.out 0; have hfz10_1 := blk_frozen BK101.out 1))
   go_ret
   exact ⟨by first | rfl | (simp [errW_none, errW_some] <;> rfl) | (simp [*, errW_none, errW_some] <;> rfl), by repeat (first | (with_reducible first | exact HB.out | apply below_alloc | apply pw_below_drewN | apply below_drew1 | refine below_set ?_ GE101.out) | exact HB.out)⟩
 ·rw [if_neg c2] at H
  have c2b0 : decide ((-1099511627776) ≤ a0_1) = false := decide_eq_false c2
  clear c2
  obtain rfl := Option.some.inj H
  go_enter Try.func19, Try.ntmps19
  go_wp2_with (first | ((with_reducible refine gate_dst (N := 1) rfl ?_); refine box_event ?hg (N := 1) ?hd (cs := #[.int .i64 a0_0, .int .i64 a0_1]) (t := 24) ?hr ?_; (case hd => rfl); (case hg => rfl); (case hr => first | (go_simp; done) | (go_simp; rfl)); intro gb101 hg w11 hbox hb; have n0_ := Aside0.mk (below_step (by repeat (first | (with_reducible first | exact HB.out | apply below_alloc | apply pw_below_drewN | apply below_drew1) | exact HB.out)) hb); have n1_ := Aside0.mk (hbox); have n2_ := Aside0.mk ((by rw [hg]; exact (below_size (by repeat (first | (with_reducible first | exact HB.out | apply below_alloc | apply pw_below_drewN | apply below_drew1) | exact HB.out))) : w.heap.size ≤ gb101)); have n3_ := Aside0.mk ((by rw [hg]; exact (below_size (by repeat (first | (with_reducible first | exact HB.out | apply below_alloc | apply pw_below_drewN | apply below_drew1) | exact HB.out))) : w.heap.size ≤ gb101)); clear HB; have HB := n0_; have BK101 := n1_; have GW101 := n2_; have GE101 := n3_; clear n0_ n1_ n2_ n3_; clear hb hbox hg; have hcz12_0 : w11.cell? ⟨gb101, 0, none⟩ = some (.int .i64 a0_0) := (blk_cell BK101.out 0).trans rfl; have hcz12_1 : w11.cell? ⟨gb101, 1, none⟩ = some (.int .i64 a0_1) := (blk_cell BK101.out 1).trans rfl; have hfz12_0 := blk_frozen BK101.out 0; have hfz12_1 := blk_frozen BK101.out 1))
  go_ret
  exact ⟨by first | rfl | (simp [errW_none, errW_some] <;> rfl) | (simp [*, errW_none, errW_some] <;> rfl), by repeat (first | (with_reducible first | exact HB.out | apply below_alloc | apply pw_below_drewN | apply below_drew1 | refine below_set ?_ GE101.out) | exact HB.out)⟩

end Go.Proofs.Ytmkhkkfliecfdaa.PT

namespace Go.Proofs.Ytmkhkkfliecfdaa.PT
open Go.RowKit Go.Proofs.YtmkhkkfliecfdaaW.PrintWords Go.Proofs.YtmkhkkfliecfdaaW.PrintLast Go.Proofs.Ytmkhkkfliecfdaa.Given Go.Proofs.Ytmkhkkfliecfdaa.Mm
attribute [local go_sem] mx_go mn_go
set_option linter.unusedVariables false
set_option linter.unusedSimpArgs false

attribute [local go_sem high] idx70
/-! ### spec_RangesIn: function 11 -/
def spec_RangesIn.l0 : Nat → List (S24) → List (S24) → Int → Int → Option (Bool)
 | 0, _, _, _, _ => none
 | k + 1, x0, x5, x6, x7 => if x7 < x6 then (if 0 ≤ x7 then (if x7 < (x5.length : Int) then ((spec_RangeIn.f ((rd_T24 x5 x7).f0) ((rd_T24 x5 x7).f1)).bind fun t104 => (if t104 = true then (spec_RangesIn.l0 k x0 x5 x6 (wrap64 (x7 + 1))) else (some false))) else (none)) else (none)) else (some (decide ((x0.length : Int) ≤ 60)))
def spec_RangesIn.f (k : Nat) (l0 : List (S24)) : Option (Bool) := spec_RangesIn.l0 k l0 l0 (l0.length : Int) 0
theorem spec_RangesIn.mono_l : ∀ k, (∀ y0 y1 y2 y3, LeO (spec_RangesIn.l0 k y0 y1 y2 y3) (spec_RangesIn.l0 (k + 1) y0 y1 y2 y3))
 | 0 => fun _ _ _ _ r h => by simp [spec_RangesIn.l0] at h
 | k + 1 => by
  have ih0 := spec_RangesIn.mono_l k
  ·intro y0 y1 y2 y3
   unfold spec_RangesIn.l0
   repeat' first
   | (with_reducible exact ih0 _ _ _ _)
   | (with_reducible exact LeO.refl _)
   | (with_reducible exact LeO.none _)
   | (with_reducible refine LeO.ite ?_ ?_)
   | (with_reducible refine LeO.bind ?_ (fun _ => ?_))
   | exact ih0 _ _ _ _
   | exact LeO.none _
   | refine LeO.ite ?_ ?_
   | refine LeO.bind ?_ (fun _ => ?_)
theorem spec_RangesIn.mono : ∀ a0 k, LeO (spec_RangesIn.f k a0) (spec_RangesIn.f (k + 1) a0) := by
 intro a0 k
 have ih0 := spec_RangesIn.mono_l k
 unfold spec_RangesIn.f
 repeat' first
   | (with_reducible exact ih0 _ _ _ _)
   | (with_reducible exact LeO.refl _)
   | (with_reducible exact LeO.none _)
   | (with_reducible refine LeO.ite ?_ ?_)
   | (with_reducible refine LeO.bind ?_ (fun _ => ?_))
   | exact ih0 _ _ _ _
   | exact LeO.none _
   | refine LeO.ite ?_ ?_
   | refine LeO.bind ?_ (fun _ => ?_)
set_option maxHeartbeats 8000000 in
set_option maxRecDepth 100000 in
theorem spec_RangesIn.calls (k : Nat) (A0 : Option Addr) (c0 : Nat) (l0 : List (S24)) (r : Bool) (w : World) (hr0 : Kd.C k24 w A0 l0.length l0) (hc0 : l0.length ≤ c0) (h : spec_RangesIn.f k l0 = some r) :
  Calls Try.prog 11 #[.slice A0 l0.length c0] w fun e w' => e = .returned (.bool r) ∧ Below w.heap.size w w' := by
 have hu24 := Try.underlying24
 have HR0 := Aside0.mk hr0
 have HC0 := Aside0.mk hc0
 clear hr0 hc0
 have HB := Aside0.mk (Below.refl w.heap.size w)
 have H : (spec_RangesIn.l0 k l0 l0 (l0.length : Int) 0) = some r := h
 clear h
 have H' := Aside0.mk H
 clear H
 go_enter Try.func11, Try.ntmps11
 go_wp2
 go_loopg [7] k (fun kq v7 w' => ∃ (x7_1 : Int), v7 = .int .i64 x7_1 ∧ Aside0 (spec_RangesIn.l0 kq l0 l0 (l0.length : Int) x7_1 = some r) ∧ Aside0 (kq ≤ k) ∧ Aside0 (Below w.heap.size w w'))
 case atStart => exact ⟨(0), (by first | rfl | (simp; done) | (simp [*]; done)), H', ⟨Nat.le_refl _⟩, ⟨by repeat (first | (with_reducible first | exact HB.out | apply below_alloc | apply pw_below_drewN | apply below_drew1) | exact HB.out)⟩⟩
 case round =>
  clear H'
  try clear c1
  obtain ⟨x7_1, rfl, HA, HK1, HB⟩ := hrel
  cases gk with
  | zero => exact absurd HA.out (by simp [spec_RangesIn.l0])
  | succ k1 =>
   have H := HA.out
   clear HA
   simp only [spec_RangesIn.l0] at H
   by_cases c2 : x7_1 < (l0.length : Int)
   ·rw [if_pos c2] at H
    have c2b0 : decide (x7_1 < (l0.length : Int)) = true := decide_eq_true c2
    clear c2
    by_cases c3 : 0 ≤ x7_1
    ·rw [if_pos c3] at H
     have c3b0 : decide (0 ≤ x7_1) = true := decide_eq_true c3
     clear c3
     by_cases c4 : x7_1 < (l0.length : Int)
     ·rw [if_pos c4] at H
      have c4b0 : decide (x7_1 < (l0.length : Int)) = true := decide_eq_true c4
      clear c4
      replace H := Option.bind_eq_some_iff.mp H
      obtain ⟨t104, A50, H⟩ := H
      replace H : (if t104 = true then (spec_RangesIn.l0 k1 l0 l0 (l0.length : Int) (wrap64 (x7_1 + 1))) else (some false)) = some r := H
      have A5 := Aside0.mk A50
      clear A50
      by_cases c6 : t104 = true
      ·subst c6
       have H1 : (spec_RangesIn.l0 k1 l0 l0 (l0.length : Int) (wrap64 (x7_1 + 1))) = some r := by rw [if_pos rfl] at H; exact H
       clear H
       have H := H1
       clear H1
       have H' := Aside0.mk H
       clear H
       have p102 : 0 ≤ (x7_1 : Int) := of_decide_eq_true (by first | (with_reducible assumption) | assumption)
       have q102 : x7_1 < (l0.length : Int) := of_decide_eq_true (by first | (with_reducible assumption) | assumption)
       obtain ⟨ad102, e102, hx102_0, hx102_1⟩ := at_T24 HR0.out x7_1 p102 q102
       cases e102
       replace hx102_0 := (HB.out.cell (World.block_lt_of_cell? w _ hx102_0)).trans hx102_0
       replace hx102_1 := (HB.out.cell (World.block_lt_of_cell? w _ hx102_1)).trans hx102_1
       replace p102 := eq_true p102
       replace q102 := eq_true q102
       go_wp2_with (first | ((with_reducible refine gate_dst (N := 4) rfl ?_); refine box_event ?hg (N := 4) ?hd (cs := #[.int .i64 0, .int .i64 0]) (t := 24) ?hr ?_; (case hd => rfl); (case hg => rfl); (case hr => first | (go_simp; done) | (go_simp; rfl)); intro gb103 hg w7 hbox hb; have n0_ := Aside0.mk (below_step (by repeat (first | (with_reducible first | exact HB.out | apply below_alloc | apply pw_below_drewN | apply below_drew1) | exact HB.out)) hb); have n1_ := Aside0.mk (hbox); have n2_ := Aside0.mk ((by rw [hg]; exact (below_size (by repeat (first | (with_reducible first | exact HB.out | apply below_alloc | apply pw_below_drewN | apply below_drew1) | exact HB.out))) : w.heap.size ≤ gb103)); have n3_ := Aside0.mk ((by rw [hg]; exact (below_size (by repeat (first | (with_reducible first | exact HB.out | apply below_alloc | apply pw_below_drewN | apply below_drew1) | exact HB.out))) : w.heap.size ≤ gb103)); clear HB; have HB := n0_; have BK103 := n1_; have GW103 := n2_; have GE103 := n3_; clear n0_ n1_ n2_ n3_; clear hb hbox hg; have hcz8_0 : w7.cell? ⟨gb103, 0, none⟩ = some (.int .i64 0) := (blk_cell BK103.out 0).trans rfl; have hcz8_1 : w7.cell? ⟨gb103, 1, none⟩ = some (.int .i64 0) := (blk_cell BK103.out 1).trans rfl; have hfz8_0 := blk_frozen BK103.out 0; have hfz8_1 := blk_frozen BK103.out 1) | ((with_reducible refine gate_dst (N := 12) rfl ?_); refine goesL_ (some 12) rfl rfl Try.func19 (by kernel_rfl) rfl #[.agg #[.int .i64 ((rd_T24 l0 x7_1).f0), .int .i64 ((rd_T24 l0 x7_1).f1)]] rfl (by (try simp only [List.map_toArray, List.map_cons, List.map_nil]); first | done | rfl | (simp only [List.length_drop, List.length_take]; rfl)) ?_; (with_reducible refine (spec_RangeIn.calls ((rd_T24 l0 x7_1).f0) ((rd_T24 l0 x7_1).f1) true _ A5.out).mono ?_); rintro e w9 ⟨rfl, hb⟩; refine ⟨_, rfl, ?_⟩; have n0_ := Aside0.mk (blk_below (g := gb103) (o := .cells #[.int .i64 ((rd_T24 l0 x7_1).f0), .int .i64 ((rd_T24 l0 x7_1).f1)] 24 (0, 0)) (by (with_reducible repeat (first | refine blk_drewN ?_ _ | refine blk_drew ?_ | refine blk_alloc ?_ _)); refine blk_put (cs := #[.int .i64 ((rd_T24 l0 x7_1).f0), .int .i64 0]) ?_ 1 _ rfl; (with_reducible repeat (first | refine blk_drewN ?_ _ | refine blk_drew ?_ | refine blk_alloc ?_ _)); refine blk_put (cs := #[.int .i64 0, .int .i64 0]) ?_ 0 _ rfl; (with_reducible repeat (first | refine blk_drewN ?_ _ | refine blk_drew ?_ | refine blk_alloc ?_ _)); exact BK103.out) hb); have n1_ := Aside0.mk (below_step (by repeat (first | (with_reducible first | exact HB.out | apply below_alloc | apply pw_below_drewN | apply below_drew1 | refine below_set ?_ GE103.out) | exact HB.out)) hb); clear BK103; clear HB; have BK103 := n0_; have HB := n1_; clear n0_ n1_; (try clear hb); (try clear hb2); (try clear hk); (try clear hi)))
       go_roundg k1
       case measure => have := HK1.out; omega
       case rel => exact ⟨(wrap64 (x7_1 + 1)), (by first | rfl | (simp; done) | (simp [*]; done)), H', ⟨by have := HK1.out; omega⟩, ⟨by repeat (first | (with_reducible first | exact HB.out | apply below_alloc | apply pw_below_drewN | apply below_drew1 | refine below_set ?_ GE103.out) | exact HB.out)⟩⟩
      ·replace c6 := Bool.eq_false_iff.mpr c6
       subst c6
       have H1 : (some false) = some r := by rw [if_neg (show ¬ (false = true) by decide)] at H; exact H
       clear H
       have H := H1
       clear H1
       obtain rfl := Option.some.inj H
       have p102 : 0 ≤ (x7_1 : Int) := of_decide_eq_true (by first | (with_reducible assumption) | assumption)
       have q102 : x7_1 < (l0.length : Int) := of_decide_eq_true (by first | (with_reducible assumption) | assumption)
       obtain ⟨ad102, e102, hx102_0, hx102_1⟩ := at_T24 HR0.out x7_1 p102 q102
       cases e102
       replace hx102_0 := (HB.out.cell (World.block_lt_of_cell? w _ hx102_0)).trans hx102_0
       replace hx102_1 := (HB.out.cell (World.block_lt_of_cell? w _ hx102_1)).trans hx102_1
       replace p102 := eq_true p102
       replace q102 := eq_true q102
       go_wp2_with (first | ((with_reducible refine gate_dst (N := 4) rfl ?_); refine box_event ?hg (N := 4) ?hd (cs := #[.int .i64 0, .int .i64 0]) (t := 24) ?hr ?_; (case hd => rfl); (case hg => rfl); (case hr => first | (go_simp; done) | (go_simp; rfl)); intro gb103 hg w10 hbox hb; have n0_ := Aside0.mk (below_step (by repeat (first | (with_reducible first | exact HB.out | apply below_alloc | apply pw_below_drewN | apply below_drew1) | exact HB.out)) hb); have n1_ := Aside0.mk (hbox); have n2_ := Aside0.mk ((by rw [hg]; exact (below_size (by repeat (first | (with_reducible first | exact HB.out | apply below_alloc | apply pw_below_drewN | apply below_drew1) | exact HB.out))) : w.heap.size ≤ gb103)); have n3_ := Aside0.mk ((by rw [hg]; exact (below_size (by repeat (first | (with_reducible first | exact HB.out | apply below_alloc | apply pw_below_drewN | apply below_drew1) | exact HB.out))) : w.heap.size ≤ gb103)); clear HB; have HB := n0_; have BK103 := n1_; have GW103 := n2_; have GE103 := n3_; clear n0_ n1_ n2_ n3_; clear hb hbox hg; have hcz11_0 : w10.cell? ⟨gb103, 0, none⟩ = some (.int .i64 0) := (blk_cell BK103.out 0).trans rfl; have hcz11_1 : w10.cell? ⟨gb103, 1, none⟩ = some (.int .i64 0) := (blk_cell BK103.out 1).trans rfl; have hfz11_0 := blk_frozen BK103.out 0; have hfz11_1 := blk_frozen BK103.out 1) | ((with_reducible refine gate_dst (N := 12) rfl ?_); refine goesL_ (some 12) rfl rfl Try.func19 (by kernel_rfl) rfl #[.agg #[.int .i64 ((rd_T24 l0 x7_1).f0), .int .i64 ((rd_T24 l0 x7_1).f1)]] rfl (by (try simp only [List.map_toArray, List.map_cons, List.map_nil]); first | done | rfl | (simp only [List.length_drop, List.length_take]; rfl)) ?_; (with_reducible refine (spec_RangeIn.calls ((rd_T24 l0 x7_1).f0) ((rd_T24 l0 x7_1).f1) false _ A5.out).mono ?_); rintro e w12 ⟨rfl, hb⟩; refine ⟨_, rfl, ?_⟩; have n0_ := Aside0.mk (blk_below (g := gb103) (o := .cells #[.int .i64 ((rd_T24 l0 x7_1).f0), .int .i64 ((rd_T24 l0 x7_1).f1)] 24 (0, 0)) (by (with_reducible repeat (first | refine blk_drewN ?_ _ | refine blk_drew ?_ | refine blk_alloc ?_ _)); refine blk_put (cs := #[.int .i64 ((rd_T24 l0 x7_1).f0), .int .i64 0]) ?_ 1 _ rfl; (with_reducible repeat (first | refine blk_drewN ?_ _ | refine blk_drew ?_ | refine blk_alloc ?_ _)); refine blk_put (cs := #[.int .i64 0, .int .i64 0]) ?_ 0 _ rfl; (with_reducible repeat (first | refine blk_drewN ?_ _ | refine blk_drew ?_ | refine blk_alloc ?_ _)); exact BK103.out) hb); have n1_ := Aside0.mk (below_step (by repeat (first | (with_reducible first | exact HB.out | apply below_alloc | apply pw_below_drewN | apply below_drew1 | refine below_set ?_ GE103.out) | exact HB.out)) hb); clear BK103; clear HB; have BK103 := n0_; have HB := n1_; clear n0_ n1_; (try clear hb); (try clear hb2); (try clear hk); (try clear hi)))
       go_ret
       exact ⟨by first | rfl | (simp [errW_none, errW_some] <;> rfl) | (simp [*, errW_none, errW_some] <;> rfl), by repeat (first | (with_reducible first | exact HB.out | apply below_alloc | apply pw_below_drewN | apply below_drew1 | refine below_set ?_ GE103.out) | exact HB.out)⟩
     ·rw [if_neg c4] at H
      exact absurd H (by simp)
    ·rw [if_neg c3] at H
     exact absurd H (by simp)
   ·rw [if_neg c2] at H
    have c2b0 : decide (x7_1 < (l0.length : Int)) = false := decide_eq_false c2
    clear c2
    obtain rfl := Option.some.inj H
    go_wp2
    go_ret
    exact ⟨by first | rfl | (simp [errW_none, errW_some] <;> rfl) | (simp [*, errW_none, errW_some] <;> rfl), by repeat (first | (with_reducible first | exact HB.out | apply below_alloc | apply pw_below_drewN | apply below_drew1) | exact HB.out)⟩

end Go.Proofs.Ytmkhkkfliecfdaa.PT

namespace Go.Proofs.Ytmkhkkfliecfdaa.PT
open Go.RowKit Go.Proofs.YtmkhkkfliecfdaaW.PrintWords Go.Proofs.YtmkhkkfliecfdaaW.PrintLast Go.Proofs.Ytmkhkkfliecfdaa.Given Go.Proofs.Ytmkhkkfliecfdaa.Mm
attribute [local go_sem] mx_go mn_go
set_option linter.unusedVariables false
set_option linter.unusedSimpArgs false

attribute [local go_sem high] idx70
/-! ### spec_RangeAsk: function 12 -/
def spec_RangeAsk.f (a0_0 : Int) (a0_1 : Int) : Option (Bool) := (spec_RangeIn.f a0_0 a0_1).bind fun t106 => (if t106 = true then (some (decide (a0_1 ≥ 0))) else (some false))
set_option maxHeartbeats 8000000 in
set_option maxRecDepth 100000 in
theorem spec_RangeAsk.calls (a0_0 : Int) (a0_1 : Int) (r : Bool) (w : World) (h : spec_RangeAsk.f a0_0 a0_1 = some r) :
  Calls Try.prog 12 #[.agg #[.int .i64 a0_0, .int .i64 a0_1]] w fun e w' => e = .returned (.bool r) ∧ Below w.heap.size w w' := by
 have hu24 := Try.underlying24
 have HB := Aside0.mk (Below.refl w.heap.size w)
 have H : ((spec_RangeIn.f a0_0 a0_1).bind fun t106 => (if t106 = true then (some (decide (a0_1 ≥ 0))) else (some false))) = some r := h
 clear h
 replace H := Option.bind_eq_some_iff.mp H
 obtain ⟨t106, A20, H⟩ := H
 replace H : (if t106 = true then (some (decide (a0_1 ≥ 0))) else (some false)) = some r := H
 have A2 := Aside0.mk A20
 clear A20
 by_cases c3 : t106 = true
 ·subst c3
  have H1 : (some (decide (a0_1 ≥ 0))) = some r := by rw [if_pos rfl] at H; exact H
  clear H
  have H := H1
  clear H1
  obtain rfl := Option.some.inj H
  go_enter Try.func12, Try.ntmps12
  go_wp2_with (first | ((with_reducible refine gate_dst (N := 1) rfl ?_); refine box_event ?hg (N := 1) ?hd (cs := #[.int .i64 a0_0, .int .i64 a0_1]) (t := 24) ?hr ?_; (case hd => rfl); (case hg => rfl); (case hr => first | (go_simp; done) | (go_simp; rfl)); intro gb105 hg w4 hbox hb; have n0_ := Aside0.mk (below_step (by repeat (first | (with_reducible first | exact HB.out | apply below_alloc | apply pw_below_drewN | apply below_drew1) | exact HB.out)) hb); have n1_ := Aside0.mk (hbox); have n2_ := Aside0.mk ((by rw [hg]; exact (below_size (by repeat (first | (with_reducible first | exact HB.out | apply below_alloc | apply pw_below_drewN | apply below_drew1) | exact HB.out))) : w.heap.size ≤ gb105)); have n3_ := Aside0.mk ((by rw [hg]; exact (below_size (by repeat (first | (with_reducible first | exact HB.out | apply below_alloc | apply pw_below_drewN | apply below_drew1) | exact HB.out))) : w.heap.size ≤ gb105)); clear HB; have HB := n0_; have BK105 := n1_; have GW105 := n2_; have GE105 := n3_; clear n0_ n1_ n2_ n3_; clear hb hbox hg; have hcz5_0 : w4.cell? ⟨gb105, 0, none⟩ = some (.int .i64 a0_0) := (blk_cell BK105.out 0).trans rfl; have hcz5_1 : w4.cell? ⟨gb105, 1, none⟩ = some (.int .i64 a0_1) := (blk_cell BK105.out 1).trans rfl; have hfz5_0 := blk_frozen BK105.out 0; have hfz5_1 := blk_frozen BK105.out 1) | ((with_reducible refine gate_dst (N := 4) rfl ?_); refine goesL_ (some 4) rfl rfl Try.func19 (by kernel_rfl) rfl #[.agg #[.int .i64 a0_0, .int .i64 a0_1]] rfl (by (try simp only [List.map_toArray, List.map_cons, List.map_nil]); first | done | rfl | (simp only [List.length_drop, List.length_take]; rfl)) ?_; (with_reducible refine (spec_RangeIn.calls a0_0 a0_1 true _ A2.out).mono ?_); rintro e w6 ⟨rfl, hb⟩; refine ⟨_, rfl, ?_⟩; have n0_ := Aside0.mk (blk_below (g := gb105) (o := .cells #[.int .i64 a0_0, .int .i64 a0_1] 24 (0, 0)) (by (with_reducible repeat (first | refine blk_drewN ?_ _ | refine blk_drew ?_ | refine blk_alloc ?_ _)); exact BK105.out) hb); have n1_ := Aside0.mk (below_step (by repeat (first | (with_reducible first | exact HB.out | apply below_alloc | apply pw_below_drewN | apply below_drew1 | refine below_set ?_ GE105.out) | exact HB.out)) hb); clear BK105; clear HB; have BK105 := n0_; have HB := n1_; clear n0_ n1_; (try clear hb); (try clear hb2); (try clear hk); (try clear hi); have hcz7_0 : w6.cell? ⟨gb105, 0, none⟩ = some (.int .i64 a0_0) := (blk_cell BK105.out 0).trans rfl; have hcz7_1 : w6.cell? ⟨gb105, 1, none⟩ = some (.int .i64 a0_1) := (blk_cell BK105.out 1).trans rfl; have hfz7_0 := blk_frozen BK105.out 0; have hfz7_1 := blk_frozen BK105.out 1))
  go_ret
  exact ⟨by first | rfl | (simp [errW_none, errW_some] <;> rfl) | (simp [*, errW_none, errW_some] <;> rfl), by repeat (first | (with_reducible first | exact HB.out | apply below_alloc | apply pw_below_drewN | apply below_drew1 | refine below_set ?_ GE105.out) | exact HB.out)⟩
 ·replace c3 := Bool.eq_false_iff.mpr c3
  subst c3
  have H1 : (some false) = some r := by rw [if_neg (show ¬ (false = true) by decide)] at H; exact H
  clear H
  have H := H1
  clear H1
  obtain rfl := Option.some.inj H
  go_enter Try.func12, Try.ntmps12
  go_wp2_with (first | ((with_reducible refine gate_dst (N := 1) rfl ?_); refine box_event ?hg (N := 1) ?hd (cs := #[.int .i64 a0_0, .int .i64 a0_1]) (t := 24) ?hr ?_; (case hd => rfl); (case hg => rfl); (case hr => first | (go_simp; done) | (go_simp; rfl)); intro gb105 hg w8 hbox hb; have n0_ := Aside0.mk (below_step (by repeat (first | (with_reducible first | exact HB.out | apply below_alloc | apply pw_below_drewN | apply below_drew1) | exact HB.out)) hb); have n1_ := Aside0.mk (hbox); have n2_ := Aside0.mk ((by rw [hg]; exact (below_size (by repeat (first | (with_reducible first | exact HB.out | apply below_alloc | apply pw_below_drewN | apply below_drew1) | exact HB.out))) : w.heap.size ≤ gb105)); have n3_ := Aside0.mk ((by rw [hg]; exact (below_size (by repeat (first | (with_reducible first | exact HB.out | apply below_alloc | apply pw_below_drewN | apply below_drew1) | exact HB.out))) : w.heap.size ≤ gb105)); clear HB; have HB := n0_; have BK105 := n1_; have GW105 := n2_; have GE105 := n3_; clear n0_ n1_ n2_ n3_; clear hb hbox hg; have hcz9_0 : w8.cell? ⟨gb105, 0, none⟩ = some (.int .i64 a0_0) := (blk_cell BK105.out 0).trans rfl; have hcz9_1 : w8.cell? ⟨gb105, 1, none⟩ = some (.int .i64 a0_1) := (blk_cell BK105.out 1).trans rfl; have hfz9_0 := blk_frozen BK105.out 0; have hfz9_1 := blk_frozen BK105.out 1) | ((with_reducible refine gate_dst (N := 4) rfl ?_); refine goesL_ (some 4) rfl rfl Try.func19 (by kernel_rfl) rfl #[.agg #[.int .i64 a0_0, .int .i64 a0_1]] rfl (by (try simp only [List.map_toArray, List.map_cons, List.map_nil]); first | done | rfl | (simp only [List.length_drop, List.length_take]; rfl)) ?_; (with_reducible refine (spec_RangeIn.calls a0_0 a0_1 false _ A2.out).mono ?_); rintro e w10 ⟨rfl, hb⟩; refine ⟨_, rfl, ?_⟩; have n0_ := Aside0.mk (blk_below (g := gb105) (o := .cells #[.int .i64 a0_0, .int .i64 a0_1] 24 (0, 0)) (by (with_reducible repeat (first | refine blk_drewN ?_ _ | refine blk_drew ?_ | refine blk_alloc ?_ _)); exact BK105.out) hb); have n1_ := Aside0.mk (below_step (by repeat (first | (with_reducible first | exact HB.out | apply below_alloc | apply pw_below_drewN | apply below_drew1 | refine below_set ?_ GE105.out) | exact HB.out)) hb); clear BK105; clear HB; have BK105 := n0_; have HB := n1_; clear n0_ n1_; (try clear hb); (try clear hb2); (try clear hk); (try clear hi)))
  go_ret
  exact ⟨by first | rfl | (simp [errW_none, errW_some] <;> rfl) | (simp [*, errW_none, errW_some] <;> rfl), by repeat (first | (with_reducible first | exact HB.out | apply below_alloc | apply pw_below_drewN | apply below_drew1 | refine below_set ?_ GE105.out) | exact HB.out)⟩

end Go.Proofs.Ytmkhkkfliecfdaa.PT

namespace Go.Proofs.Ytmkhkkfliecfdaa.PT
open Go.RowKit Go.Proofs.YtmkhkkfliecfdaaW.PrintWords Go.Proofs.YtmkhkkfliecfdaaW.PrintLast Go.Proofs.Ytmkhkkfliecfdaa.Given Go.Proofs.Ytmkhkkfliecfdaa.Mm
attribute [local go_sem] mx_go mn_go
set_option linter.unusedVariables false
set_option linter.unusedSimpArgs false

attribute [local go_sem high] idx70
/-! ### impl_given: function 34 -/
def impl_given.f (a0_0 : Int) (a0_1 : Int) : Option (Int × Int) := some (a0_0, a0_1)
set_option maxHeartbeats 8000000 in
set_option maxRecDepth 100000 in
theorem impl_given.calls (a0_0 : Int) (a0_1 : Int) (r1 : Int) (r2 : Int) (w : World) (h : impl_given.f a0_0 a0_1 = some (r1, r2)) :
  Calls Try.prog 34 #[.agg #[.int .i64 a0_0, .int .i64 a0_1]] w fun e w' => e = .returned (.agg #[.int .i64 r1, .int .i64 r2]) ∧ Below w.heap.size w w' := by
 have hu24 := Try.underlying24
 have hu48 := Try.underlying48
 have HB := Aside0.mk (Below.refl w.heap.size w)
 have H : (some (a0_0, a0_1)) = some (r1, r2) := h
 clear h
 simp only [Option.some.injEq, Prod.mk.injEq] at H
 obtain ⟨rfl, rfl⟩ := H
 go_enter Try.func34, Try.ntmps34
 go_wp2_with (first | ((with_reducible refine gate_dst (N := 1) rfl ?_); refine box_event ?hg (N := 1) ?hd (cs := #[.int .i64 a0_0, .int .i64 a0_1]) (t := 24) ?hr ?_; (case hd => rfl); (case hg => rfl); (case hr => first | (go_simp; done) | (go_simp; rfl)); intro gb107 hg w2 hbox hb; have n0_ := Aside0.mk (below_step (by repeat (first | (with_reducible first | exact HB.out | apply below_alloc | apply pw_below_drewN | apply below_drew1) | exact HB.out)) hb); have n1_ := Aside0.mk (hbox); have n2_ := Aside0.mk ((by rw [hg]; exact (below_size (by repeat (first | (with_reducible first | exact HB.out | apply below_alloc | apply pw_below_drewN | apply below_drew1) | exact HB.out))) : w.heap.size ≤ gb107)); have n3_ := Aside0.mk ((by rw [hg]; exact (below_size (by repeat (first | (with_reducible first | exact HB.out | apply below_alloc | apply pw_below_drewN | apply below_drew1) | exact HB.out))) : w.heap.size ≤ gb107)); clear HB; have HB := n0_; have BK107 := n1_; have GW107 := n2_; have GE107 := n3_; clear n0_ n1_ n2_ n3_; clear hb hbox hg) | ((with_reducible refine gate_dst (N := 2) rfl ?_); refine box_event ?hg (N := 2) ?hd (cs := #[.int .i64 0, .int .i64 0]) (t := 48) ?hr ?_; (case hd => rfl); (case hg => rfl); (case hr => first | (go_simp; done) | (go_simp; rfl)); intro gb108 hg w3 hbox hb; have n0_ := Aside0.mk (blk_below (g := gb107) (o := .cells #[.int .i64 a0_0, .int .i64 a0_1] 24 (0, 0)) (by (with_reducible repeat (first | refine blk_drewN ?_ _ | refine blk_drew ?_ | refine blk_alloc ?_ _)); exact BK107.out) hb); have n1_ := Aside0.mk (below_step (by repeat (first | (with_reducible first | exact HB.out | apply below_alloc | apply pw_below_drewN | apply below_drew1 | refine below_set ?_ GE107.out) | exact HB.out)) hb); have n2_ := Aside0.mk (hbox); have n3_ := Aside0.mk ((by rw [hg]; exact (below_size (by repeat (first | (with_reducible first | exact HB.out | apply below_alloc | apply pw_below_drewN | apply below_drew1 | refine below_set ?_ GE107.out) | exact HB.out))) : w.heap.size ≤ gb108)); have n4_ := Aside0.mk ((by rw [hg]; exact (below_size (by repeat (first | (with_reducible first | exact HB.out | apply below_alloc | apply pw_below_drewN | apply below_drew1 | refine below_set ?_ GE107.out) | exact HB.out))) : w.heap.size ≤ gb108)); have n5_ := Aside0.mk ((by rw [hg]; exact Nat.ne_of_lt (blk_lt (g := gb107) (o := .cells #[.int .i64 a0_0, .int .i64 a0_1] 24 (0, 0)) (by (with_reducible repeat (first | refine blk_drewN ?_ _ | refine blk_drew ?_ | refine blk_alloc ?_ _)); exact BK107.out)) : gb107 ≠ gb108)); have n6_ := Aside0.mk ((by rw [hg]; exact Nat.ne_of_gt (blk_lt (g := gb107) (o := .cells #[.int .i64 a0_0, .int .i64 a0_1] 24 (0, 0)) (by (with_reducible repeat (first | refine blk_drewN ?_ _ | refine blk_drew ?_ | refine blk_alloc ?_ _)); exact BK107.out)) : gb108 ≠ gb107)); clear BK107; clear HB; have BK107 := n0_; have HB := n1_; have BK108 := n2_; have GW108 := n3_; have GE108 := n4_; have NB107_108 := n5_; have NB108_107 := n6_; clear n0_ n1_ n2_ n3_ n4_ n5_ n6_; clear hb hbox hg; have hnb4 := NB107_108.out; have hnc4 := NB108_107.out; have hcz5_0 : w3.cell? ⟨gb107, 0, none⟩ = some (.int .i64 a0_0) := (blk_cell BK107.out 0).trans rfl; have hcz5_1 : w3.cell? ⟨gb107, 1, none⟩ = some (.int .i64 a0_1) := (blk_cell BK107.out 1).trans rfl; have hfz5_0 := blk_frozen BK107.out 0; have hfz5_1 := blk_frozen BK107.out 1; have hcz6_0 : w3.cell? ⟨gb108, 0, none⟩ = some (.int .i64 0) := (blk_cell BK108.out 0).trans rfl; have hcz6_1 : w3.cell? ⟨gb108, 1, none⟩ = some (.int .i64 0) := (blk_cell BK108.out 1).trans rfl; have hfz6_0 := blk_frozen BK108.out 0; have hfz6_1 := blk_frozen BK108.out 1))
 refine bodyPost_ret (results_cell_row rfl _ _ gb108 48 #[.int .i64 a0_0, .int .i64 a0_1] (0, 0) _ rfl (by (with_reducible repeat (first | refine blk_drewN ?_ _ | refine blk_drew ?_ | refine blk_alloc ?_ _)); refine blk_put (cs := #[.int .i64 a0_0, .int .i64 0]) ?_ 1 _ rfl; (with_reducible repeat (first | refine blk_drewN ?_ _ | refine blk_drew ?_ | refine blk_alloc ?_ _)); refine blk_put (cs := #[.int .i64 0, .int .i64 0]) ?_ 0 _ rfl; (with_reducible repeat (first | refine blk_drewN ?_ _ | refine blk_drew ?_ | refine blk_alloc ?_ _)); exact BK108.out) Try.underlying48 rfl (by kernel_rfl)) rfl ?_
 exact ⟨by first | rfl | (simp [errW_none, errW_some] <;> rfl) | (simp [*, errW_none, errW_some] <;> rfl), by repeat (first | (with_reducible first | exact HB.out | apply below_alloc | apply pw_below_drewN | apply below_drew1 | refine below_set ?_ GE107.out | refine below_set ?_ GE108.out) | exact HB.out)⟩

end Go.Proofs.Ytmkhkkfliecfdaa.PT

namespace Go.Proofs.Ytmkhkkfliecfdaa.PT
open Go.RowKit Go.Proofs.YtmkhkkfliecfdaaW.PrintWords Go.Proofs.YtmkhkkfliecfdaaW.PrintLast Go.Proofs.Ytmkhkkfliecfdaa.Given Go.Proofs.Ytmkhkkfliecfdaa.Mm
attribute [local go_sem] mx_go mn_go
set_option linter.unusedVariables false
set_option linter.unusedSimpArgs false

attribute [local go_sem high] idx70
/-! ### ranges_Range_IsEmpty: function 43 -/
def ranges_Range_IsEmpty.f (a0_0 : Int) (a0_1 : Int) : Option (Bool) := some (decide (a0_1 ≤ 0))
set_option maxHeartbeats 8000000 in
set_option maxRecDepth 100000 in
theorem ranges_Range_IsEmpty.calls (a0_0 : Int) (a0_1 : Int) (r : Bool) (w : World) (h : ranges_Range_IsEmpty.f a0_0 a0_1 = some r) :
  Calls Try.prog 43 #[.agg #[.int .i64 a0_0, .int .i64 a0_1]] w fun e w' => e = .returned (.bool r) ∧ Below w.heap.size w w' := by
 have hu48 := Try.underlying48
 have HB := Aside0.mk (Below.refl w.heap.size w)
 have H : (some (decide (a0_1 ≤ 0))) = some r := h
 clear h
 obtain rfl := Option.some.inj H
 go_enter Try.func43, Try.ntmps43
 go_wp2_with (first | ((with_reducible refine gate_dst (N := 1) rfl ?_); refine box_event ?hg (N := 1) ?hd (cs := #[.int .i64 a0_0, .int .i64 a0_1]) (t := 48) ?hr ?_; (case hd => rfl); (case hg => rfl); (case hr => first | (go_simp; done) | (go_simp; rfl)); intro gb109 hg w2 hbox hb; have n0_ := Aside0.mk (below_step (by repeat (first | (with_reducible first | exact HB.out | apply below_alloc | apply pw_below_drewN | apply below_drew1) | exact HB.out)) hb); have n1_ := Aside0.mk (hbox); have n2_ := Aside0.mk ((by rw [hg]; exact (below_size (by repeat (first | (with_reducible first | exact HB.out | apply below_alloc | apply pw_below_drewN | apply below_drew1) | exact HB.out))) : w.heap.size ≤ gb109)); have n3_ := Aside0.mk ((by rw [hg]; exact (below_size (by repeat (first | (with_reducible first | exact HB.out | apply below_alloc | apply pw_below_drewN | apply below_drew1) | exact HB.out))) : w.heap.size ≤ gb109)); clear HB; have HB := n0_; have BK109 := n1_; have GW109 := n2_; have GE109 := n3_; clear n0_ n1_ n2_ n3_; clear hb hbox hg; have hcz3_0 : w2.cell? ⟨gb109, 0, none⟩ = some (.int .i64 a0_0) := (blk_cell BK109.out 0).trans rfl; have hcz3_1 : w2.cell? ⟨gb109, 1, none⟩ = some (.int .i64 a0_1) := (blk_cell BK109.out 1).trans rfl; have hfz3_0 := blk_frozen BK109.out 0; have hfz3_1 := blk_frozen BK109.out 1))
 go_ret
 exact ⟨by first | rfl | (simp [errW_none, errW_some] <;> rfl) | (simp [*, errW_none, errW_some] <;> rfl), by repeat (first | (with_reducible first | exact HB.out | apply below_alloc | apply pw_below_drewN | apply below_drew1 | refine below_set ?_ GE109.out) | exact HB.out)⟩

end Go.Proofs.Ytmkhkkfliecfdaa.PT

namespace Go.Proofs.Ytmkhkkfliecfdaa.PT
open Go.RowKit Go.Proofs.YtmkhkkfliecfdaaW.PrintWords Go.Proofs.YtmkhkkfliecfdaaW.PrintLast Go.Proofs.Ytmkhkkfliecfdaa.Given Go.Proofs.Ytmkhkkfliecfdaa.Mm
attribute [local go_sem] mx_go mn_go
set_option linter.unusedVariables false
set_option linter.unusedSimpArgs false

attribute [local go_sem high] idx70
/-! ### impl_told: function 35 -/
def impl_told.f (a0_0 : Int) (a0_1 : Int) : Option (Int × Int) := some (a0_0, a0_1)
set_option maxHeartbeats 8000000 in
set_option maxRecDepth 100000 in
theorem impl_told.calls (a0_0 : Int) (a0_1 : Int) (r1 : Int) (r2 : Int) (w : World) (h : impl_told.f a0_0 a0_1 = some (r1, r2)) :
  Calls Try.prog 35 #[.agg #[.int .i64 a0_0, .int .i64 a0_1]] w fun e w' => e = .returned (.agg #[.int .i64 r1, .int .i64 r2]) ∧ Below w.heap.size w w' := by
 have hu48 := Try.underlying48
 have hu24 := Try.underlying24
 have HB := Aside0.mk (Below.refl w.heap.size w)
 have H : (some (a0_0, a0_1)) = some (r1, r2) := h
 clear h
 simp only [Option.some.injEq, Prod.mk.injEq] at H
 obtain ⟨rfl, rfl⟩ := H
 go_enter Try.func35, Try.ntmps35
 go_wp2_with (first | ((with_reducible refine gate_dst (N := 1) rfl ?_); refine box_event ?hg (N := 1) ?hd (cs := #[.int .i64 a0_0, .int .i64 a0_1]) (t := 48) ?hr ?_; (case hd => rfl); (case hg => rfl); (case hr => first | (go_simp; done) | (go_simp; rfl)); intro gb111 hg w2 hbox hb; have n0_ := Aside0.mk (below_step (by repeat (first | (with_reducible first | exact HB.out | apply below_alloc | apply pw_below_drewN | apply below_drew1) | exact HB.out)) hb); have n1_ := Aside0.mk (hbox); have n2_ := Aside0.mk ((by rw [hg]; exact (below_size (by repeat (first | (with_reducible first | exact HB.out | apply below_alloc | apply pw_below_drewN | apply below_drew1) | exact HB.out))) : w.heap.size ≤ gb111)); have n3_ := Aside0.mk ((by rw [hg]; exact (below_size (by repeat (first | (with_reducible first | exact HB.out | apply below_alloc | apply pw_below_drewN | apply below_drew1) | exact HB.out))) : w.heap.size ≤ gb111)); clear HB; have HB := n0_; have BK111 := n1_; have GW111 := n2_; have GE111 := n3_; clear n0_ n1_ n2_ n3_; clear hb hbox hg) | ((with_reducible refine gate_dst (N := 2) rfl ?_); refine box_event ?hg (N := 2) ?hd (cs := #[.int .i64 0, .int .i64 0]) (t := 24) ?hr ?_; (case hd => rfl); (case hg => rfl); (case hr => first | (go_simp; done) | (go_simp; rfl)); intro gb112 hg w3 hbox hb; have n0_ := Aside0.mk (blk_below (g := gb111) (o := .cells #[.int .i64 a0_0, .int .i64 a0_1] 48 (0, 0)) (by (with_reducible repeat (first | refine blk_drewN ?_ _ | refine blk_drew ?_ | refine blk_alloc ?_ _)); exact BK111.out) hb); have n1_ := Aside0.mk (below_step (by repeat (first | (with_reducible first | exact HB.out | apply below_alloc | apply pw_below_drewN | apply below_drew1 | refine below_set ?_ GE111.out) | exact HB.out)) hb); have n2_ := Aside0.mk (hbox); have n3_ := Aside0.mk ((by rw [hg]; exact (below_size (by repeat (first | (with_reducible first | exact HB.out | apply below_alloc | apply pw_below_drewN | apply below_drew1 | refine below_set ?_ GE111.out) | exact HB.out))) : w.heap.size ≤ gb112)); have n4_ := Aside0.mk ((by rw [hg]; exact (below_size (by repeat (first | (with_reducible first | exact HB.out | apply below_alloc | apply pw_below_drewN | apply below_drew1 | refine below_set ?_ GE111.out) | exact HB.out))) : w.heap.size ≤ gb112)); have n5_ := Aside0.mk ((by rw [hg]; exact Nat.ne_of_lt (blk_lt (g := gb111) (o := .cells #[.int .i64 a0_0, .int .i64 a0_1] 48 (0, 0)) (by (with_reducible repeat (first | refine blk_drewN ?_ _ | refine blk_drew ?_ | refine blk_alloc ?_ _)); exact BK111.out)) : gb111 ≠ gb112)); have n6_ := Aside0.mk ((by rw [hg]; exact Nat.ne_of_gt (blk_lt (g := gb111) (o := .cells #[.int .i64 a0_0, .int .i64 a0_1] 48 (0, 0)) (by (with_reducible repeat (first | refine blk_drewN ?_ _ | refine blk_drew ?_ | refine blk_alloc ?_ _)); exact BK111.out)) : gb112 ≠ gb111)); clear BK111; clear HB; have BK111 := n0_; have HB := n1_; have BK112 := n2_; have GW112 := n3_; have GE112 := n4_; have NB111_112 := n5_; have NB112_111 := n6_; clear n0_ n1_ n2_ n3_ n4_ n5_ n6_; clear hb hbox hg; have hnb4 := NB111_112.out; have hnc4 := NB112_111.out; have hcz5_0 : w3.cell? ⟨gb111, 0, none⟩ = some (.int .i64 a0_0) := (blk_cell BK111.out 0).trans rfl; have hcz5_1 : w3.cell? ⟨gb111, 1, none⟩ = some (.int .i64 a0_1) := (blk_cell BK111.out 1).trans rfl; have hfz5_0 := blk_frozen BK111.out 0; have hfz5_1 := blk_frozen BK111.out 1; have hcz6_0 : w3.cell? ⟨gb112, 0, none⟩ = some (.int .i64 0) := (blk_cell BK112.out 0).trans rfl; have hcz6_1 : w3.cell? ⟨gb112, 1, none⟩ = some (.int .i64 0) := (blk_cell BK112.out 1).trans rfl; have hfz6_0 := blk_frozen BK112.out 0; have hfz6_1 := blk_frozen BK112.out 1))
 refine bodyPost_ret (results_cell_row rfl _ _ gb112 24 #[.int .i64 a0_0, .int .i64 a0_1] (0, 0) _ rfl (by (with_reducible repeat (first | refine blk_drewN ?_ _ | refine blk_drew ?_ | refine blk_alloc ?_ _)); refine blk_put (cs := #[.int .i64 a0_0, .int .i64 0]) ?_ 1 _ rfl; (with_reducible repeat (first | refine blk_drewN ?_ _ | refine blk_drew ?_ | refine blk_alloc ?_ _)); refine blk_put (cs := #[.int .i64 0, .int .i64 0]) ?_ 0 _ rfl; (with_reducible repeat (first | refine blk_drewN ?_ _ | refine blk_drew ?_ | refine blk_alloc ?_ _)); exact BK112.out) Try.underlying24 rfl (by kernel_rfl)) rfl ?_
 exact ⟨by first | rfl | (simp [errW_none, errW_some] <;> rfl) | (simp [*, errW_none, errW_some] <;> rfl), by repeat (first | (with_reducible first | exact HB.out | apply below_alloc | apply pw_below_drewN | apply below_drew1 | refine below_set ?_ GE111.out | refine below_set ?_ GE112.out) | exact HB.out)⟩

end Go.Proofs.Ytmkhkkfliecfdaa.PT

namespace Go.Proofs.Ytmkhkkfliecfdaa.PT
open Go.RowKit Go.Proofs.YtmkhkkfliecfdaaW.PrintWords Go.Proofs.YtmkhkkfliecfdaaW.PrintLast Go.Proofs.Ytmkhkkfliecfdaa.Given Go.Proofs.Ytmkhkkfliecfdaa.Mm
attribute [local go_sem] mx_go mn_go
set_option linter.unusedVariables false
set_option linter.unusedSimpArgs false

attribute [local go_sem high] idx70
/-! ### impl_tellFound: function 38 -/
def impl_tellFound.l0 : Nat → List (S31) → List (S72) → Int → Int → Option ((List (S31)))
 | 0, _, _, _, _ => none
 | k + 1, x3, x6, x7, x8 => if x8 < x7 then (if 0 ≤ x8 then (if x8 < (x6.length : Int) then ((impl_told.f ((rd_T72 x6 x8).f0.f0) ((rd_T72 x6 x8).f0.f1)).bind fun bt115 => (if x3.length < 5864062014805 then (impl_tellFound.l0 k (x3 ++ [(⟨(⟨bt115.1, bt115.2⟩ : S24), (rd_T72 x6 x8).f1⟩ : S31)]) x6 x7 (wrap64 (x8 + 1))) else (none))) else (none)) else (none)) else (some x3)
def impl_tellFound.f (k : Nat) (l0 : List (S72)) : Option ((List (S31))) := impl_tellFound.l0 k ([] : List (S31)) l0 (l0.length : Int) 0
theorem impl_tellFound.mono_l : ∀ k, (∀ y0 y1 y2 y3, LeO (impl_tellFound.l0 k y0 y1 y2 y3) (impl_tellFound.l0 (k + 1) y0 y1 y2 y3))
 | 0 => fun _ _ _ _ r h => by simp [impl_tellFound.l0] at h
 | k + 1 => by
  have ih0 := impl_tellFound.mono_l k
  ·intro y0 y1 y2 y3
   unfold impl_tellFound.l0
   repeat' first
   | (with_reducible exact ih0 _ _ _ _)
   | (with_reducible exact LeO.refl _)
   | (with_reducible exact LeO.none _)
   | (with_reducible refine LeO.ite ?_ ?_)
   | (with_reducible refine LeO.bind ?_ (fun _ => ?_))
   | exact ih0 _ _ _ _
   | exact LeO.none _
   | refine LeO.ite ?_ ?_
   | refine LeO.bind ?_ (fun _ => ?_)
theorem impl_tellFound.mono : ∀ a0 k, LeO (impl_tellFound.f k a0) (impl_tellFound.f (k + 1) a0) := by
 intro a0 k
 have ih0 := impl_tellFound.mono_l k
 unfold impl_tellFound.f
 repeat' first
   | (with_reducible exact ih0 _ _ _ _)
   | (with_reducible exact LeO.refl _)
   | (with_reducible exact LeO.none _)
   | (with_reducible refine LeO.ite ?_ ?_)
   | (with_reducible refine LeO.bind ?_ (fun _ => ?_))
   | exact ih0 _ _ _ _
   | exact LeO.none _
   | refine LeO.ite ?_ ?_
   | refine LeO.bind ?_ (fun _ => ?_)
def impl_tellFound.T5 : Bool × List (List Nat × List Nat) := (true, [([], []), ([], []), ([1], [1]), ([2], [2]), ([], []), ([4], [4]), ([3, 5], [3, 5]), ([6], [6]), ([0, 7, 3], [0, 7]), ([8, 8, 0, 1, 2, 3, 4, 5, 6, 7, 8], [0, 8])])
def impl_tellFound.B5 : List Nat := [0, 0, 2, 6, 0, 16, 62, 126, 255, 511]
theorem impl_tellFound.tab5 : rtab .any (opsOf Try.f38 5) = impl_tellFound.T5 := by kernel_rfl
theorem impl_tellFound.bits5 : waitsOk impl_tellFound.T5.2 impl_tellFound.B5 = true := by kernel_rfl
set_option maxHeartbeats 8000000 in
set_option maxRecDepth 100000 in
theorem impl_tellFound.calls (k : Nat) (A0 : Option Addr) (c0 : Nat) (l0 : List (S72)) (r : List (S31)) (w : World) (hr0 : Kd.C k72 w A0 l0.length l0) (hc0 : l0.length ≤ c0) (h : impl_tellFound.f k l0 = some r) :
  Calls Try.prog 38 #[.slice A0 l0.length c0] w fun e w' => ∃ v0_ : Value, e = .returned (v0_) ∧ Kd.R k31 31 w' w.heap.size (fun _ => True) v0_ r ∧ Below w.heap.size w w' := by
 have hu72 := Try.underlying72
 have hu48 := Try.underlying48
 have hu31 := Try.underlying31
 have HR0 := Aside0.mk hr0
 have HC0 := Aside0.mk hc0
 clear hr0 hc0
 have HB := Aside0.mk (Below.refl w.heap.size w)
 have H : (impl_tellFound.l0 k ([] : List (S31)) l0 (l0.length : Int) 0) = some r := h
 clear h
 have H' := Aside0.mk H
 clear H
 go_enter Try.func38, Try.ntmps38
 go_wp2
 go_loopg [3, 8] k (fun kq v3 v8 w' => ∃ (x3_1 : List (S31)) (x8_1 : Int), v8 = .int .i64 x8_1 ∧ Aside0 (impl_tellFound.l0 kq x3_1 l0 (l0.length : Int) x8_1 = some r) ∧ Aside0 (kq ≤ k) ∧ Aside0 (Kd.R k31 31 w' w.heap.size (fun _ => True) v3 x3_1) ∧ Aside0 (Below w.heap.size w w'))
 case atStart => exact ⟨(([] : List (S31))), (0), (by first | rfl | (simp; done) | (simp [*]; done)), H', ⟨Nat.le_refl _⟩, ⟨by first | exact Kd.R_nil _ _ _ _ _ | exact Kd.N_nil _ _ _ _ _ | exact Kd.V_nil _ _ _ _ _ | exact Kd.Q_nil _ _ _ _ _ | exact Kd.S_nil _ _ _ _ _⟩, ⟨by repeat (first | (with_reducible first | exact HB.out | apply below_alloc | apply pw_below_drewN | apply below_drew1) | exact HB.out)⟩⟩
 case round =>
  clear H'
  obtain ⟨x3_1, x8_1, rfl, HA, HK1, HO_3, HB⟩ := hrel
  cases gk with
  | zero => exact absurd HA.out (by simp [impl_tellFound.l0])
  | succ k1 =>
   have H := HA.out
   clear HA
   simp only [impl_tellFound.l0] at H
   by_cases c2 : x8_1 < (l0.length : Int)
   ·rw [if_pos c2] at H
    have c2b0 : decide (x8_1 < (l0.length : Int)) = true := decide_eq_true c2
    clear c2
    by_cases c3 : 0 ≤ x8_1
    ·rw [if_pos c3] at H
     have c3b0 : decide (0 ≤ x8_1) = true := decide_eq_true c3
     clear c3
     by_cases c4 : x8_1 < (l0.length : Int)
     ·rw [if_pos c4] at H
      have c4b0 : decide (x8_1 < (l0.length : Int)) = true := decide_eq_true c4
      clear c4
      replace H := Option.bind_eq_some_iff.mp H
      obtain ⟨⟨t115, t116⟩, A50, H⟩ := H
      replace H : (if x3_1.length < 5864062014805 then (impl_tellFound.l0 k1 (x3_1 ++ [(⟨(⟨t115, t116⟩ : S24), (rd_T72 l0 x8_1).f1⟩ : S31)]) l0 (l0.length : Int) (wrap64 (x8_1 + 1))) else (none)) = some r := H
      have A5 := Aside0.mk A50
      clear A50
      by_cases c6 : x3_1.length < 5864062014805
      ·rw [if_pos c6] at H
       have LMc6 := Aside0.mk c6
       clear c6
       obtain ⟨y117, hy117⟩ : ∃ y_ : List (S31), y_ = (x3_1 ++ [(⟨(⟨t115, t116⟩ : S24), (rd_T72 l0 x8_1).f1⟩ : S31)]) := ⟨_, rfl⟩
       replace H : (impl_tellFound.l0 k1 y117 l0 (l0.length : Int) (wrap64 (x8_1 + 1))) = some r := by first | (rw [hy117]; with_reducible exact H) | (have H2_ := (Option.bind_some _ _).symm.trans H; rw [hy117]; with_reducible exact H2_) | (have H2_ := (Option.bind_some _ _).symm.trans H; with_reducible exact H2_) | with_reducible exact H | (rw [hy117]; exact H) | exact H
       have Ny117 := Aside0.mk hy117
       clear hy117
       have H' := Aside0.mk H
       clear H
       have p113 : 0 ≤ (x8_1 : Int) := of_decide_eq_true (by first | (with_reducible assumption) | assumption)
       have q113 : x8_1 < (l0.length : Int) := of_decide_eq_true (by first | (with_reducible assumption) | assumption)
       obtain ⟨ad113, e113, hx113_0, hx113_1, hx113_2⟩ := at_T72 HR0.out x8_1 p113 q113
       cases e113
       replace hx113_0 := (HB.out.cell (World.block_lt_of_cell? w _ hx113_0)).trans hx113_0
       replace hx113_1 := (HB.out.cell (World.block_lt_of_cell? w _ hx113_1)).trans hx113_1
       replace hx113_2 := (HB.out.cell (World.block_lt_of_cell? w _ hx113_2)).trans hx113_2
       replace p113 := eq_true p113
       replace q113 := eq_true q113
       try go_wp2_with (first | ((with_reducible refine gate_dst (N := 5) rfl ?_); refine box_event ?hg (N := 5) ?hd (cs := #[.int .i64 0, .int .i64 0, .bool false]) (t := 72) ?hr ?_; (case hd => rfl); (case hg => rfl); (case hr => first | (go_simp; done) | (go_simp; rfl)); intro gb114 hg w7 hbox hb; have n0_ := Aside0.mk (Kd.R_below (by (with_reducible repeat (first | apply Kd.R_alloc | apply Kd.R_drewN | apply Kd.R_drew)); exact HO_3.out) hb); have n1_ := Aside0.mk (below_step (by repeat (first | (with_reducible first | exact HB.out | apply below_alloc | apply pw_below_drewN | apply below_drew1) | exact HB.out)) hb); have n2_ := Aside0.mk (hbox); have n3_ := Aside0.mk ((by rw [hg]; exact (below_size (by repeat (first | (with_reducible first | exact HB.out | apply below_alloc | apply pw_below_drewN | apply below_drew1) | exact HB.out))) : w.heap.size ≤ gb114)); have n4_ := Aside0.mk ((by rw [hg]; exact (below_size (by repeat (first | (with_reducible first | exact HB.out | apply below_alloc | apply pw_below_drewN | apply below_drew1) | exact HB.out))) : w.heap.size ≤ gb114)); clear HO_3; clear HB; have HO_3 := n0_; have HB := n1_; have BK114 := n2_; have GW114 := n3_; have GE114 := n4_; clear n0_ n1_ n2_ n3_ n4_; clear hb hbox hg; have hcz8_0 : w7.cell? ⟨gb114, 0, none⟩ = some (.int .i64 0) := (blk_cell BK114.out 0).trans rfl; have hcz8_1 : w7.cell? ⟨gb114, 1, none⟩ = some (.int .i64 0) := (blk_cell BK114.out 1).trans rfl; have hcz8_2 : w7.cell? ⟨gb114, 2, none⟩ = some (.bool false) := (blk_cell BK114.out 2).trans rfl; have hfz8_0 := blk_frozen BK114.out 0; have hfz8_1 := blk_frozen BK114.out 1; have hfz8_2 := blk_frozen BK114.out 2))
       have n0_ : Aside0 (Kd.R k31 31 (((w7.setCell ⟨gb114, 0, none⟩ (.int .i64 ((rd_T72 l0 x8_1).f0.f0))).setCell ⟨gb114, 1, none⟩ (.int .i64 ((rd_T72 l0 x8_1).f0.f1))).setCell ⟨gb114, 2, none⟩ (.bool ((rd_T72 l0 x8_1).f1))) w.heap.size (fun _ => True) u3 x3_1) := ⟨by (with_reducible repeat (first | apply Kd.R_alloc | apply Kd.R_drewN | apply Kd.R_drew)); exact Kd.R_mono (Kd.R_far (p := ⟨gb114, 2, none⟩) (Kd.R_far (p := ⟨gb114, 1, none⟩) (Kd.R_far (p := ⟨gb114, 0, none⟩) (Kd.R_types HO_3.out BK114.out (by decide)) (fun _ hk => hk.2) (.int .i64 ((rd_T72 l0 x8_1).f0.f0))) (fun _ hk => hk.2) (.int .i64 ((rd_T72 l0 x8_1).f0.f1))) (fun _ hk => hk.2) (.bool ((rd_T72 l0 x8_1).f1))) (fun _ hk => trivial)⟩
       have n1_ : Aside0 ((((w7.setCell ⟨gb114, 0, none⟩ (.int .i64 ((rd_T72 l0 x8_1).f0.f0))).setCell ⟨gb114, 1, none⟩ (.int .i64 ((rd_T72 l0 x8_1).f0.f1))).setCell ⟨gb114, 2, none⟩ (.bool ((rd_T72 l0 x8_1).f1))).heap[gb114]? = some (.cells #[.int .i64 ((rd_T72 l0 x8_1).f0.f0), .int .i64 ((rd_T72 l0 x8_1).f0.f1), .bool ((rd_T72 l0 x8_1).f1)] 72 (0, 0))) := ⟨by (with_reducible repeat (first | refine blk_drewN ?_ _ | refine blk_drew ?_ | refine blk_alloc ?_ _)); refine blk_put (cs := #[.int .i64 ((rd_T72 l0 x8_1).f0.f0), .int .i64 ((rd_T72 l0 x8_1).f0.f1), .bool false]) ?_ 2 _ rfl; (with_reducible repeat (first | refine blk_drewN ?_ _ | refine blk_drew ?_ | refine blk_alloc ?_ _)); refine blk_put (cs := #[.int .i64 ((rd_T72 l0 x8_1).f0.f0), .int .i64 0, .bool false]) ?_ 1 _ rfl; (with_reducible repeat (first | refine blk_drewN ?_ _ | refine blk_drew ?_ | refine blk_alloc ?_ _)); refine blk_put (cs := #[.int .i64 0, .int .i64 0, .bool false]) ?_ 0 _ rfl; (with_reducible repeat (first | refine blk_drewN ?_ _ | refine blk_drew ?_ | refine blk_alloc ?_ _)); exact BK114.out⟩
       have n2_ : Aside0 (Below w.heap.size w (((w7.setCell ⟨gb114, 0, none⟩ (.int .i64 ((rd_T72 l0 x8_1).f0.f0))).setCell ⟨gb114, 1, none⟩ (.int .i64 ((rd_T72 l0 x8_1).f0.f1))).setCell ⟨gb114, 2, none⟩ (.bool ((rd_T72 l0 x8_1).f1)))) := ⟨by repeat (first | (with_reducible first | exact HB.out | apply below_alloc | apply pw_below_drewN | apply below_drew1 | refine below_set ?_ GE114.out) | exact HB.out)⟩
       (try clear HO_3)
       (try clear BK114)
       (try clear HB)
       generalize (((w7.setCell ⟨gb114, 0, none⟩ (.int .i64 ((rd_T72 l0 x8_1).f0.f0))).setCell ⟨gb114, 1, none⟩ (.int .i64 ((rd_T72 l0 x8_1).f0.f1))).setCell ⟨gb114, 2, none⟩ (.bool ((rd_T72 l0 x8_1).f1))) = w9 at n0_ n1_ n2_ ⊢
       have HO_3 := n0_
       have BK114 := n1_
       have HB := n2_
       clear n0_ n1_ n2_
       have n0_ := Aside0.mk (Kd.R_drew HO_3.out)
       have n1_ := Aside0.mk (blk_drew BK114.out)
       have n2_ := Aside0.mk (below_drew1 HB.out)
       clear HO_3
       clear BK114
       clear HB
       have HO_3 := n0_
       have BK114 := n1_
       have HB := n2_
       clear n0_ n1_ n2_
       refine start_ (n := 10) (S := fun w' => w'.cell? ⟨gb114, 0, none⟩ = some (.int .i64 ((rd_T72 l0 x8_1).f0.f0)) ∧ w'.cell? ⟨gb114, 1, none⟩ = some (.int .i64 ((rd_T72 l0 x8_1).f0.f1)) ∧ w'.cell? ⟨gb114, 2, none⟩ = some (.bool ((rd_T72 l0 x8_1).f1))) (ds := []) #[false, false, false, false, false, false, false, false, false, false] (by kernel_rfl) rfl rfl ⟨(blk_cell BK114.out 0).trans rfl, (blk_cell BK114.out 1).trans rfl, (blk_cell BK114.out 2).trans rfl⟩ (fun hHeld => ?_); refine with_tabW impl_tellFound.tab5 impl_tellFound.bits5 (fun HT_ HW_ => ?_)
       generalize w9.drew = w10 at HO_3 BK114 HB hHeld ⊢
       refine pure_ (i := 0) (N := some 12) (v := ?_) (a' := ?_) #[true, false, false, false, false, false, false, false, false, false] rfl rfl (any_of HT_.out (by kernel_rfl)) (fun _ _ _ h => h) (Or.inl ⟨by rfl, ?_⟩) ?_ ?_
       rotate_left
       ·intro w'
        go_simp
        with_reducible rfl
       rotate_left
       ·simp only [Act.put, List.setIfInBounds_toArray, List.set_cons_zero, List.set_cons_succ, i64_w, i32_w]
        rfl
       refine pure_ (i := 1) (N := some 13) (v := ?_) (a' := ?_) #[true, true, false, false, false, false, false, false, false, false] rfl rfl (any_of HT_.out (by kernel_rfl)) (fun _ _ _ h => h) (Or.inl ⟨by rfl, ?_⟩) ?_ ?_
       rotate_left
       ·intro w'
        go_simp
        with_reducible rfl
       rotate_left
       ·simp only [Act.put, List.setIfInBounds_toArray, List.set_cons_zero, List.set_cons_succ, i64_w, i32_w]
        rfl
       refine pure_ (i := 4) (N := some 16) (v := ?_) (a' := ?_) #[true, true, false, false, true, false, false, false, false, false] rfl rfl (any_of HT_.out (by kernel_rfl)) (fun _ _ _ h => h) (Or.inl ⟨by rfl, ?_⟩) ?_ ?_
       rotate_left
       ·intro w'
        go_simp
        with_reducible rfl
       rotate_left
       ·simp only [Act.put, List.setIfInBounds_toArray, List.set_cons_zero, List.set_cons_succ, i64_w, i32_w]
        rfl
       refine take_ (i := 2) (N := some 14) (v := ?_) (a' := ?_) #[true, true, true, false, true, false, false, false, false, false] rfl rfl (take_ofW HT_.out HW_.out (by kernel_rfl)) (fun _ _ _ h => h) (Or.inl ⟨by rfl, ?_⟩) hHeld ?_ ?_
       rotate_left
       ·rintro w' ⟨s0, s1, s2⟩
        go_simp
        with_reducible rfl
       rotate_left
       ·simp only [Act.put, List.setIfInBounds_toArray, List.set_cons_zero, List.set_cons_succ, i64_w, i32_w]
        rfl
       refine take_ (i := 5) (N := some 17) (v := ?_) (a' := ?_) #[true, true, true, false, true, true, false, false, false, false] rfl rfl (take_ofW HT_.out HW_.out (by kernel_rfl)) (fun _ _ _ h => h) (Or.inl ⟨by rfl, ?_⟩) hHeld ?_ ?_
       rotate_left
       ·rintro w' ⟨s0, s1, s2⟩
        go_simp
        with_reducible rfl
       rotate_left
       ·simp only [Act.put, List.setIfInBounds_toArray, List.set_cons_zero, List.set_cons_succ, i64_w, i32_w]
        rfl
       refine one_ (i := 3) (N := some 15) #[true, true, true, true, true, true, false, false, false, false] rfl rfl (one_of HT_.out (by kernel_rfl)) (by decide) (fun K hK => ?_)
       refine goes_ Try.func35 (by kernel_rfl) rfl #[.agg #[.int .i64 ((rd_T72 l0 x8_1).f0.f0), .int .i64 ((rd_T72 l0 x8_1).f0.f1)]] (by rfl) rfl rfl (by (try simp only [List.map_toArray, List.map_cons, List.map_nil]); first | done | rfl | (simp only [List.length_drop, List.length_take]; rfl)) ?_
       with_reducible refine (impl_told.calls ((rd_T72 l0 x8_1).f0.f0) ((rd_T72 l0 x8_1).f0.f1) t115 t116 _ A5.out).mono ?_
       rintro e w11 ⟨rfl, hb⟩
       refine ⟨_, rfl, ?_⟩
       have n0_ := Aside0.mk (Kd.R_below (by (with_reducible repeat (first | apply Kd.R_alloc | apply Kd.R_drewN | apply Kd.R_drew)); exact HO_3.out) hb)
       have n1_ := Aside0.mk (blk_below (g := gb114) (o := .cells #[.int .i64 ((rd_T72 l0 x8_1).f0.f0), .int .i64 ((rd_T72 l0 x8_1).f0.f1), .bool ((rd_T72 l0 x8_1).f1)] 72 (0, 0)) (by (with_reducible repeat (first | refine blk_drewN ?_ _ | refine blk_drew ?_ | refine blk_alloc ?_ _)); exact BK114.out) hb)
       have n2_ := Aside0.mk (below_step (by repeat (first | (with_reducible first | exact HB.out | apply below_alloc | apply pw_below_drewN | apply below_drew1 | refine below_set ?_ GE114.out) | exact HB.out)) hb)
       clear HO_3
       clear BK114
       clear HB
       have HO_3 := n0_
       have BK114 := n1_
       have HB := n2_
       clear n0_ n1_ n2_
       (try clear hb)
       (try clear hb2)
       (try clear hk)
       (try clear hi)
       refine hK.out _ _ ⟨(blk_cell BK114.out 0).trans rfl, (blk_cell BK114.out 1).trans rfl, (blk_cell BK114.out 2).trans rfl⟩ (fun hHeld => ?_)
       clear hK K
       refine norm_ (a' := ?_) ?_ ?_
       rotate_left
       ·show Act.put _ (some 15) _ = _
        simp only [Act.put, List.setIfInBounds_toArray, List.set_cons_zero, List.set_cons_succ, i64_w, i32_w]
        rfl
       refine pure_ (i := 6) (N := some 18) (v := ?_) (a' := ?_) #[true, true, true, true, true, true, true, false, false, false] rfl rfl (any_of HT_.out (by kernel_rfl)) (fun _ _ _ h => h) (Or.inl ⟨by rfl, ?_⟩) ?_ ?_
       rotate_left
       ·intro w'
        go_simp
        with_reducible rfl
       rotate_left
       ·simp only [Act.put, List.setIfInBounds_toArray, List.set_cons_zero, List.set_cons_succ, i64_w, i32_w]
        rfl
       refine one_ (i := 7) (N := some 19) #[true, true, true, true, true, true, true, true, false, false] rfl rfl (one_of HT_.out (by kernel_rfl)) (by decide) (fun K hK => ?_)
       refine value_ (w1 := ?_) (v := ?_) (by rfl) rfl ?_ ?_
       rotate_left 2
       ·go_simp
        constructor
        ·rfl
        ·rfl
       refine hK.out _ _ ⟨(blk_cell (blk_alloc BK114.out _) 0).trans rfl, (blk_cell (blk_alloc BK114.out _) 1).trans rfl, (blk_cell (blk_alloc BK114.out _) 2).trans rfl⟩ (fun hHeld => ?_)
       clear hK K
       refine norm_ (a' := ?_) ?_ ?_
       rotate_left
       ·show Act.put _ (some 19) _ = _
        simp only [Act.put, List.setIfInBounds_toArray, List.set_cons_zero, List.set_cons_succ, i64_w, i32_w]
        rfl
       refine one_ (i := 8) (N := some 20) #[true, true, true, true, true, true, true, true, true, false] rfl rfl (one_of HT_.out (by kernel_rfl)) (by decide) (fun K hK => ?_)
       refine Kd.R_append_step k31 (w0 := w) w.heap.size (by rfl) (.tmp 12) (.tmp 19) 32 31 (.agg #[(.int .i64 0), (.int .i64 0), (.bool false)]) 24 rfl Try.underlying32 info31 rfl (by decide) (by omega) u3 x3_1 (⟨(⟨t115, t116⟩ : S24), (rd_T72 l0 x8_1).f1⟩ : S31) [.int .i64 t115, .int .i64 t116, .bool ((rd_T72 l0 x8_1).f1)] (fun _ => True) (fun _ => False) rfl rfl ?aP (fun _ hk => hk.elim) ?aF ?aO ?aB ?aS ?aL ?_
       (case aP => exact k31_mkM _ _ _ (⟨(⟨t115, t116⟩ : S24), (rd_T72 l0 x8_1).f1⟩ : S31))
       (case aB => exact (by repeat (first | (with_reducible first | exact HB.out | apply below_alloc | apply pw_below_drewN | apply below_drew1 | refine below_set ?_ GE114.out) | exact HB.out)))
       (case aF => exact (fun _ _ => trivial))
       (case aO => exact (by (with_reducible repeat (first | apply Kd.R_alloc | apply Kd.R_drewN | apply Kd.R_drew)); exact HO_3.out))
       (case aS => exact (below_size (by repeat (first | (with_reducible first | exact HB.out | apply below_alloc | apply pw_below_drewN | apply below_drew1 | refine below_set ?_ GE114.out) | exact HB.out))))
       (case aL => have := LMc6.out; omega)
       intro v118 w12 ho hb hg hat
       rw [← Ny117.out] at ho
       have n0_ := Aside0.mk (blk_grown (g := gb114) (o := .cells #[.int .i64 ((rd_T72 l0 x8_1).f0.f0), .int .i64 ((rd_T72 l0 x8_1).f0.f1), .bool ((rd_T72 l0 x8_1).f1)] 72 (0, 0)) (by (with_reducible repeat (first | refine blk_drewN ?_ _ | refine blk_drew ?_ | refine blk_alloc ?_ _)); exact BK114.out) hg (Kd.R_ne HO_3.out BK114.out (by decide)))
       have n1_ := Aside0.mk (hb)
       have n2_ := Aside0.mk (ho)
       clear BK114
       clear HB
       clear HO_3
       have BK114 := n0_
       have HB := n1_
       have HO119 := n2_
       clear n0_ n1_ n2_
       clear ho hb hg hat
       refine hK.out _ _ ⟨(blk_cell BK114.out 0).trans rfl, (blk_cell BK114.out 1).trans rfl, (blk_cell BK114.out 2).trans rfl⟩ (fun hHeld => ?_)
       clear hK K
       refine norm_ (a' := ?_) ?_ ?_
       rotate_left
       ·show Act.put _ (some 20) _ = _
        simp only [Act.put, List.setIfInBounds_toArray, List.set_cons_zero, List.set_cons_succ, i64_w, i32_w]
        rfl
       refine pure_ (i := 9) (N := some 3) (v := ?_) (a' := ?_) #[true, true, true, true, true, true, true, true, true, true] rfl rfl (any_of HT_.out (by kernel_rfl)) (fun _ _ _ h => h) (Or.inl ⟨by rfl, ?_⟩) ?_ ?_
       rotate_left
       ·intro w'
        go_simp
        with_reducible rfl
       rotate_left
       ·simp only [Act.put, List.setIfInBounds_toArray, List.set_cons_zero, List.set_cons_succ, i64_w, i32_w]
        rfl
       refine done_ (done_of HT_.out (by kernel_rfl)) ?_
       try go_wp2
       go_roundg k1
       case measure => have := HK1.out; omega
       case rel => exact ⟨(y117), (wrap64 (x8_1 + 1)), (by first | rfl | (simp; done) | (simp [*]; done)), H', ⟨by have := HK1.out; omega⟩, ⟨by (with_reducible repeat (first | apply Kd.R_alloc | apply Kd.R_drewN | apply Kd.R_drew)); exact HO119.out⟩, ⟨by repeat (first | (with_reducible first | exact HB.out | apply below_alloc | apply pw_below_drewN | apply below_drew1 | refine below_set ?_ GE114.out) | exact HB.out)⟩⟩
      ·rw [if_neg c6] at H
       exact absurd H (by simp)
     ·rw [if_neg c4] at H
      exact absurd H (by simp)
    ·rw [if_neg c3] at H
     exact absurd H (by simp)
   ·rw [if_neg c2] at H
    have c2b0 : decide (x8_1 < (l0.length : Int)) = false := decide_eq_false c2
    clear c2
    obtain rfl := Option.some.inj H
    go_wp2
    go_ret
    exact ⟨_, by first | rfl | (simp [errW_none, errW_some] <;> rfl) | (simp [*, errW_none, errW_some] <;> rfl), by (with_reducible repeat (first | apply Kd.R_alloc | apply Kd.R_drewN | apply Kd.R_drew)); exact HO_3.out, by repeat (first | (with_reducible first | exact HB.out | apply below_alloc | apply pw_below_drewN | apply below_drew1) | exact HB.out)⟩

end Go.Proofs.Ytmkhkkfliecfdaa.PT

namespace Go.Proofs.Ytmkhkkfliecfdaa.PT
open Go.RowKit Go.Proofs.YtmkhkkfliecfdaaW.PrintWords Go.Proofs.YtmkhkkfliecfdaaW.PrintLast Go.Proofs.Ytmkhkkfliecfdaa.Given Go.Proofs.Ytmkhkkfliecfdaa.Mm
attribute [local go_sem] mx_go mn_go
set_option linter.unusedVariables false
set_option linter.unusedSimpArgs false

attribute [local go_sem high] idx70
/-! ### ranges_Ranges_FindAll: function 39 -/
def ranges_Ranges_FindAll.l0 : Nat → List (S48) → List (S72) → Int → Int → Option ((List (S72)))
 | 0, _, _, _, _ => none
 | k + 1, x0, x4, x121000, x121001 => (ranges_Range_IsEmpty.f x121000 x121001).bind fun t121 => (if t121 = true then (some x4) else ((ranges_Find.f x0 x121000 x121001).bind fun bt123 => (if x4.length < 5864062014805 then (ranges_Ranges_FindAll.l0 k x0 (x4 ++ [(⟨(⟨bt123.1, bt123.2.1⟩ : S48), bt123.2.2.2.2⟩ : S72)]) bt123.2.2.1 bt123.2.2.2.1) else (none))))
def ranges_Ranges_FindAll.f (k : Nat) (l0 : List (S48)) (a1_0 : Int) (a1_1 : Int) : Option ((List (S72))) := ranges_Ranges_FindAll.l0 k l0 ([] : List (S72)) a1_0 a1_1
theorem ranges_Ranges_FindAll.mono_l : ∀ k, (∀ y0 y1 y2 y3, LeO (ranges_Ranges_FindAll.l0 k y0 y1 y2 y3) (ranges_Ranges_FindAll.l0 (k + 1) y0 y1 y2 y3))
 | 0 => fun _ _ _ _ r h => by simp [ranges_Ranges_FindAll.l0] at h
 | k + 1 => by
  have ih0 := ranges_Ranges_FindAll.mono_l k
  ·intro y0 y1 y2 y3
   unfold ranges_Ranges_FindAll.l0
   repeat' first
   | (with_reducible exact ih0 _ _ _ _)
   | (with_reducible exact LeO.refl _)
   | (with_reducible exact LeO.none _)
   | (with_reducible refine LeO.ite ?_ ?_)
   | (with_reducible refine LeO.bind ?_ (fun _ => ?_))
   | exact ih0 _ _ _ _
   | exact LeO.none _
   | refine LeO.ite ?_ ?_
   | refine LeO.bind ?_ (fun _ => ?_)
theorem ranges_Ranges_FindAll.mono : ∀ a0 a1 a2 k, LeO (ranges_Ranges_FindAll.f k a0 a1 a2) (ranges_Ranges_FindAll.f (k + 1) a0 a1 a2) := by
 intro a0 a1 a2 k
 have ih0 := ranges_Ranges_FindAll.mono_l k
 unfold ranges_Ranges_FindAll.f
 repeat' first
   | (with_reducible exact ih0 _ _ _ _)
   | (with_reducible exact LeO.refl _)
   | (with_reducible exact LeO.none _)
   | (with_reducible refine LeO.ite ?_ ?_)
   | (with_reducible refine LeO.bind ?_ (fun _ => ?_))
   | exact ih0 _ _ _ _
   | exact LeO.none _
   | refine LeO.ite ?_ ?_
   | refine LeO.bind ?_ (fun _ => ?_)
set_option maxHeartbeats 8000000 in
set_option maxRecDepth 100000 in
theorem ranges_Ranges_FindAll.calls (k : Nat) (A0 : Option Addr) (c0 : Nat) (l0 : List (S48)) (a1_0 : Int) (a1_1 : Int) (r : List (S72)) (w : World) (hr0 : Kd.C k48 w A0 l0.length l0) (hc0 : l0.length ≤ c0) (h : ranges_Ranges_FindAll.f k l0 a1_0 a1_1 = some r) :
  Calls Try.prog 39 #[.slice A0 l0.length c0, .agg #[.int .i64 a1_0, .int .i64 a1_1]] w fun e w' => ∃ v0_ : Value, e = .returned (v0_) ∧ Kd.R k72 72 w' w.heap.size (fun _ => True) v0_ r ∧ Below w.heap.size w w' := by
 have hu48 := Try.underlying48
 have hu72 := Try.underlying72
 have HR0 := Aside0.mk hr0
 have HC0 := Aside0.mk hc0
 clear hr0 hc0
 have HB := Aside0.mk (Below.refl w.heap.size w)
 have H : (ranges_Ranges_FindAll.l0 k l0 ([] : List (S72)) a1_0 a1_1) = some r := h
 clear h
 have H' := Aside0.mk H
 clear H
 go_enter Try.func39, Try.ntmps39
 go_wp2_with (first | ((with_reducible refine gate_dst (N := 3) rfl ?_); refine box_event ?hg (N := 3) ?hd (cs := #[.int .i64 a1_0, .int .i64 a1_1]) (t := 48) ?hr ?_; (case hd => rfl); (case hg => rfl); (case hr => first | (go_simp; done) | (go_simp; rfl)); intro gb120 hg w3 hbox hb; have n0_ := Aside0.mk (below_step (by repeat (first | (with_reducible first | exact HB.out | apply below_alloc | apply pw_below_drewN | apply below_drew1) | exact HB.out)) hb); have n1_ := Aside0.mk (hbox); have n2_ := Aside0.mk ((by rw [hg]; exact (below_size (by repeat (first | (with_reducible first | exact HB.out | apply below_alloc | apply pw_below_drewN | apply below_drew1) | exact HB.out))) : w.heap.size ≤ gb120)); have n3_ := Aside0.mk ((by rw [hg]; exact (below_size (by repeat (first | (with_reducible first | exact HB.out | apply below_alloc | apply pw_below_drewN | apply below_drew1) | exact HB.out))) : w.heap.size ≤ gb120)); clear HB; have HB := n0_; have BK120 := n1_; have GW120 := n2_; have GE120 := n3_; clear n0_ n1_ n2_ n3_; clear hb hbox hg))
 go_loopg [4] k (fun kq v4 w' => ∃ (x4_1 : List (S72)) (x121000_1 : Int) (x121001_1 : Int), Aside0 (ranges_Ranges_FindAll.l0 kq l0 x4_1 x121000_1 x121001_1 = some r) ∧ Aside0 (kq ≤ k) ∧ Aside0 (Kd.R k72 72 w' w.heap.size (fun _ => True) v4 x4_1) ∧ Aside0 (w'.heap[gb120]? = some (.cells #[.int .i64 x121000_1, .int .i64 x121001_1] 48 (0, 0))) ∧ Aside0 (Below w.heap.size w w'))
 case atStart => exact ⟨(([] : List (S72))), (a1_0), (a1_1), H', ⟨Nat.le_refl _⟩, ⟨by first | exact Kd.R_nil _ _ _ _ _ | exact Kd.N_nil _ _ _ _ _ | exact Kd.V_nil _ _ _ _ _ | exact Kd.Q_nil _ _ _ _ _ | exact Kd.S_nil _ _ _ _ _⟩, ⟨by (with_reducible repeat (first | refine blk_drewN ?_ _ | refine blk_drew ?_ | refine blk_alloc ?_ _)); exact BK120.out⟩, ⟨by repeat (first | (with_reducible first | exact HB.out | apply below_alloc | apply pw_below_drewN | apply below_drew1 | refine below_set ?_ GE120.out) | exact HB.out)⟩⟩
 case round =>
  clear H'
  try clear p2
  try clear c3
  obtain ⟨x4_1, x121000_1, x121001_1, HA, HK1, HO_4, BK120, HB⟩ := hrel
  cases gk with
  | zero => exact absurd HA.out (by simp [ranges_Ranges_FindAll.l0])
  | succ k1 =>
   have H := HA.out
   clear HA
   simp only [ranges_Ranges_FindAll.l0] at H
   replace H := Option.bind_eq_some_iff.mp H
   obtain ⟨t121, A40, H⟩ := H
   replace H : (if t121 = true then (some x4_1) else ((ranges_Find.f l0 x121000_1 x121001_1).bind fun bt123 => (if x4_1.length < 5864062014805 then (ranges_Ranges_FindAll.l0 k1 l0 (x4_1 ++ [(⟨(⟨bt123.1, bt123.2.1⟩ : S48), bt123.2.2.2.2⟩ : S72)]) bt123.2.2.1 bt123.2.2.2.1) else (none)))) = some r := H
   have A4 := Aside0.mk A40
   clear A40
   by_cases c5 : t121 = true
   ·subst c5
    have H1 : (some x4_1) = some r := by rw [if_pos rfl] at H; exact H
    clear H
    have H := H1
    clear H1
    obtain rfl := Option.some.inj H
    have hcz6_0 : wr.cell? ⟨gb120, 0, none⟩ = some (.int .i64 x121000_1) := (blk_cell BK120.out 0).trans rfl
    have hcz6_1 : wr.cell? ⟨gb120, 1, none⟩ = some (.int .i64 x121001_1) := (blk_cell BK120.out 1).trans rfl
    have hfz6_0 := blk_frozen BK120.out 0
    have hfz6_1 := blk_frozen BK120.out 1
    go_wp2_with (first | ((with_reducible refine gate_dst (N := 7) rfl ?_); refine goesL_ (some 7) rfl rfl Try.func43 (by kernel_rfl) rfl #[.agg #[.int .i64 x121000_1, .int .i64 x121001_1]] rfl (by (try simp only [List.map_toArray, List.map_cons, List.map_nil]); first | done | rfl | (simp only [List.length_drop, List.length_take]; rfl)) ?_; (with_reducible refine (ranges_Range_IsEmpty.calls x121000_1 x121001_1 true _ A4.out).mono ?_); rintro e w7 ⟨rfl, hb⟩; refine ⟨_, rfl, ?_⟩; have n0_ := Aside0.mk (Kd.R_below (by (with_reducible repeat (first | apply Kd.R_alloc | apply Kd.R_drewN | apply Kd.R_drew)); exact HO_4.out) hb); have n1_ := Aside0.mk (blk_below (g := gb120) (o := .cells #[.int .i64 x121000_1, .int .i64 x121001_1] 48 (0, 0)) (by (with_reducible repeat (first | refine blk_drewN ?_ _ | refine blk_drew ?_ | refine blk_alloc ?_ _)); exact BK120.out) hb); have n2_ := Aside0.mk (below_step (by repeat (first | (with_reducible first | exact HB.out | apply below_alloc | apply pw_below_drewN | apply below_drew1 | refine below_set ?_ GE120.out) | exact HB.out)) hb); clear HO_4; clear BK120; clear HB; have HO_4 := n0_; have BK120 := n1_; have HB := n2_; clear n0_ n1_ n2_; (try clear hb); (try clear hb2); (try clear hk); (try clear hi)))
    go_ret
    exact ⟨_, by first | rfl | (simp [errW_none, errW_some] <;> rfl) | (simp [*, errW_none, errW_some] <;> rfl), by (with_reducible repeat (first | apply Kd.R_alloc | apply Kd.R_drewN | apply Kd.R_drew)); exact HO_4.out, by repeat (first | (with_reducible first | exact HB.out | apply below_alloc | apply pw_below_drewN | apply below_drew1 | refine below_set ?_ GE120.out) | exact HB.out)⟩
   ·replace c5 := Bool.eq_false_iff.mpr c5
    subst c5
    have H1 : ((ranges_Find.f l0 x121000_1 x121001_1).bind fun bt123 => (if x4_1.length < 5864062014805 then (ranges_Ranges_FindAll.l0 k1 l0 (x4_1 ++ [(⟨(⟨bt123.1, bt123.2.1⟩ : S48), bt123.2.2.2.2⟩ : S72)]) bt123.2.2.1 bt123.2.2.2.1) else (none))) = some r := by rw [if_neg (show ¬ (false = true) by decide)] at H; exact H
    clear H
    have H := H1
    clear H1
    replace H := Option.bind_eq_some_iff.mp H
    obtain ⟨⟨t123, t124, t125, t126, t127⟩, A80, H⟩ := H
    replace H : (if x4_1.length < 5864062014805 then (ranges_Ranges_FindAll.l0 k1 l0 (x4_1 ++ [(⟨(⟨t123, t124⟩ : S48), t127⟩ : S72)]) t125 t126) else (none)) = some r := H
    have A8 := Aside0.mk A80
    clear A80
    by_cases c9 : x4_1.length < 5864062014805
    ·rw [if_pos c9] at H
     have LMc9 := Aside0.mk c9
     clear c9
     obtain ⟨y128, hy128⟩ : ∃ y_ : List (S72), y_ = (x4_1 ++ [(⟨(⟨t123, t124⟩ : S48), t127⟩ : S72)]) := ⟨_, rfl⟩
     replace H : (ranges_Ranges_FindAll.l0 k1 l0 y128 t125 t126) = some r := by first | (rw [hy128]; with_reducible exact H) | (have H2_ := (Option.bind_some _ _).symm.trans H; rw [hy128]; with_reducible exact H2_) | (have H2_ := (Option.bind_some _ _).symm.trans H; with_reducible exact H2_) | with_reducible exact H | (rw [hy128]; exact H) | exact H
     have Ny128 := Aside0.mk hy128
     clear hy128
     have H' := Aside0.mk H
     clear H
     have hcz10_0 : wr.cell? ⟨gb120, 0, none⟩ = some (.int .i64 x121000_1) := (blk_cell BK120.out 0).trans rfl
     have hcz10_1 : wr.cell? ⟨gb120, 1, none⟩ = some (.int .i64 x121001_1) := (blk_cell BK120.out 1).trans rfl
     have hfz10_0 := blk_frozen BK120.out 0
     have hfz10_1 := blk_frozen BK120.out 1
     go_wp2_with (first | ((with_reducible refine gate_dst (N := 7) rfl ?_); refine goesL_ (some 7) rfl rfl Try.func43 (by kernel_rfl) rfl #[.agg #[.int .i64 x121000_1, .int .i64 x121001_1]] rfl (by (try simp only [List.map_toArray, List.map_cons, List.map_nil]); first | done | rfl | (simp only [List.length_drop, List.length_take]; rfl)) ?_; (with_reducible refine (ranges_Range_IsEmpty.calls x121000_1 x121001_1 false _ A4.out).mono ?_); rintro e w11 ⟨rfl, hb⟩; refine ⟨_, rfl, ?_⟩; have n0_ := Aside0.mk (Kd.R_below (by (with_reducible repeat (first | apply Kd.R_alloc | apply Kd.R_drewN | apply Kd.R_drew)); exact HO_4.out) hb); have n1_ := Aside0.mk (blk_below (g := gb120) (o := .cells #[.int .i64 x121000_1, .int .i64 x121001_1] 48 (0, 0)) (by (with_reducible repeat (first | refine blk_drewN ?_ _ | refine blk_drew ?_ | refine blk_alloc ?_ _)); exact BK120.out) hb); have n2_ := Aside0.mk (below_step (by repeat (first | (with_reducible first | exact HB.out | apply below_alloc | apply pw_below_drewN | apply below_drew1 | refine below_set ?_ GE120.out) | exact HB.out)) hb); clear HO_4; clear BK120; clear HB; have HO_4 := n0_; have BK120 := n1_; have HB := n2_; clear n0_ n1_ n2_; (try clear hb); (try clear hb2); (try clear hk); (try clear hi)) | ((with_reducible refine gate_dst (N := 5) rfl ?_); refine box_event ?hg (N := 5) ?hd (cs := #[.int .i64 0, .int .i64 0, .bool false]) (t := 72) ?hr ?_; (case hd => rfl); (case hg => rfl); (case hr => first | (go_simp; done) | (go_simp; rfl)); intro gb122 hg w12 hbox hb; have n0_ := Aside0.mk (Kd.R_below (Kd.R_elderB (by (with_reducible repeat (first | apply Kd.R_alloc | apply Kd.R_drewN | apply Kd.R_drew)); exact HO_4.out) gb122 (Nat.le_of_eq hg.symm)) hb); have n1_ := Aside0.mk (blk_below (g := gb120) (o := .cells #[.int .i64 x121000_1, .int .i64 x121001_1] 48 (0, 0)) (by (with_reducible repeat (first | refine blk_drewN ?_ _ | refine blk_drew ?_ | refine blk_alloc ?_ _)); exact BK120.out) hb); have n2_ := Aside0.mk (below_step (by repeat (first | (with_reducible first | exact HB.out | apply below_alloc | apply pw_below_drewN | apply below_drew1 | refine below_set ?_ GE120.out) | exact HB.out)) hb); have n3_ := Aside0.mk (hbox); have n4_ := Aside0.mk ((by rw [hg]; exact (below_size (by repeat (first | (with_reducible first | exact HB.out | apply below_alloc | apply pw_below_drewN | apply below_drew1 | refine below_set ?_ GE120.out) | exact HB.out))) : w.heap.size ≤ gb122)); have n5_ := Aside0.mk ((by rw [hg]; exact (below_size (by repeat (first | (with_reducible first | exact HB.out | apply below_alloc | apply pw_below_drewN | apply below_drew1 | refine below_set ?_ GE120.out) | exact HB.out))) : w.heap.size ≤ gb122)); have n6_ := Aside0.mk ((by rw [hg]; exact Nat.ne_of_lt (blk_lt (g := gb120) (o := .cells #[.int .i64 x121000_1, .int .i64 x121001_1] 48 (0, 0)) (by (with_reducible repeat (first | refine blk_drewN ?_ _ | refine blk_drew ?_ | refine blk_alloc ?_ _)); exact BK120.out)) : gb120 ≠ gb122)); have n7_ := Aside0.mk ((by rw [hg]; exact Nat.ne_of_gt (blk_lt (g := gb120) (o := .cells #[.int .i64 x121000_1, .int .i64 x121001_1] 48 (0, 0)) (by (with_reducible repeat (first | refine blk_drewN ?_ _ | refine blk_drew ?_ | refine blk_alloc ?_ _)); exact BK120.out)) : gb122 ≠ gb120)); clear HO_4; clear BK120; clear HB; have HO_4 := n0_; have BK120 := n1_; have HB := n2_; have BK122 := n3_; have GW122 := n4_; have GE122 := n5_; have NB120_122 := n6_; have NB122_120 := n7_; clear n0_ n1_ n2_ n3_ n4_ n5_ n6_ n7_; clear hb hbox hg; have hnb13 := NB120_122.out; have hnc13 := NB122_120.out; have hcz14_0 : w12.cell? ⟨gb120, 0, none⟩ = some (.int .i64 x121000_1) := (blk_cell BK120.out 0).trans rfl; have hcz14_1 : w12.cell? ⟨gb120, 1, none⟩ = some (.int .i64 x121001_1) := (blk_cell BK120.out 1).trans rfl; have hfz14_0 := blk_frozen BK120.out 0; have hfz14_1 := blk_frozen BK120.out 1) | ((with_reducible refine gate_dst (N := 12) rfl ?_); refine goesL_ (some 12) rfl rfl Try.func33 (by kernel_rfl) rfl #[.slice A0 l0.length c0, .agg #[.int .i64 x121000_1, .int .i64 x121001_1]] rfl (by (try simp only [List.map_toArray, List.map_cons, List.map_nil]); first | done | rfl | (simp only [List.length_drop, List.length_take]; rfl)) ?_; (with_reducible refine (ranges_Find.calls _ _ l0 x121000_1 x121001_1 t123 t124 t125 t126 t127 _ ?side1 ?side2 A8.out).mono ?_); (case side1 => repeat (first | exact (Kd.C_below HR0.out HB.out) | (with_reducible refine Kd.C_alloc ?_ _) | (with_reducible refine Kd.C_drewN ?_ _) | (with_reducible refine Kd.C_drew ?_))); (case side2 => exact HC0.out); rintro e w15 ⟨rfl, hb⟩; refine ⟨_, rfl, ?_⟩; have n0_ := Aside0.mk (Kd.R_below (by (with_reducible repeat (first | apply Kd.R_alloc | apply Kd.R_drewN | apply Kd.R_drew)); exact HO_4.out) hb); have n1_ := Aside0.mk (blk_below (g := gb120) (o := .cells #[.int .i64 x121000_1, .int .i64 x121001_1] 48 (0, 0)) (by (with_reducible repeat (first | refine blk_drewN ?_ _ | refine blk_drew ?_ | refine blk_alloc ?_ _)); exact BK120.out) hb); have n2_ := Aside0.mk (blk_below (g := gb122) (o := .cells #[.int .i64 0, .int .i64 0, .bool false] 72 (0, 0)) (by (with_reducible repeat (first | refine blk_drewN ?_ _ | refine blk_drew ?_ | refine blk_alloc ?_ _)); exact BK122.out) hb); have n3_ := Aside0.mk (below_step (by repeat (first | (with_reducible first | exact HB.out | apply below_alloc | apply pw_below_drewN | apply below_drew1 | refine below_set ?_ GE120.out | refine below_set ?_ GE122.out) | exact HB.out)) hb); clear HO_4; clear BK120; clear BK122; clear HB; have HO_4 := n0_; have BK120 := n1_; have BK122 := n2_; have HB := n3_; clear n0_ n1_ n2_ n3_; (try clear hb); (try clear hb2); (try clear hk); (try clear hi); have hcz16_0 : w15.cell? ⟨gb122, 0, none⟩ = some (.int .i64 0) := (blk_cell BK122.out 0).trans rfl; have hcz16_1 : w15.cell? ⟨gb122, 1, none⟩ = some (.int .i64 0) := (blk_cell BK122.out 1).trans rfl; have hcz16_2 : w15.cell? ⟨gb122, 2, none⟩ = some (.bool false) := (blk_cell BK122.out 2).trans rfl; have hfz16_0 := blk_frozen BK122.out 0; have hfz16_1 := blk_frozen BK122.out 1; have hfz16_2 := blk_frozen BK122.out 2; have hcz17_0 : w15.cell? ⟨gb120, 0, none⟩ = some (.int .i64 x121000_1) := (blk_cell BK120.out 0).trans rfl; have hcz17_1 : w15.cell? ⟨gb120, 1, none⟩ = some (.int .i64 x121001_1) := (blk_cell BK120.out 1).trans rfl; have hfz17_0 := blk_frozen BK120.out 0; have hfz17_1 := blk_frozen BK120.out 1) | (at_builtin; refine Kd.R_append k72 (w0 := w) w.heap.size rfl (.tmp 18) (.tmp 20) 60 72 (.agg #[(.int .i64 0), (.int .i64 0), (.bool false)]) 24 rfl Try.underlying60 info72 rfl (by decide) (by omega) u4 x4_1 (⟨(⟨t123, t124⟩ : S48), t127⟩ : S72) [.int .i64 t123, .int .i64 t124, .bool t127] (fun k_ => k_ ≠ gb122) (fun _ => False) rfl (by first | (go_simp; done) | (go_simp; rfl)) ?aP (fun _ hk => hk.elim) ?aF ?aO ?aB ?aS ?aL ?_; (case aP => exact k72_mkM _ _ _ (⟨(⟨t123, t124⟩ : S48), t127⟩ : S72)); (case aB => exact (by repeat (first | (with_reducible first | exact HB.out | apply below_alloc | apply pw_below_drewN | apply below_drew1 | refine below_set ?_ GE120.out | refine below_set ?_ GE122.out) | exact HB.out))); (case aF => exact (fun k_ hk => Kd.freshB (g := gb122) (o := .cells #[.int .i64 t123, .int .i64 t124, .bool t127] 72 (0, 0)) (by (with_reducible repeat (first | refine blk_drewN ?_ _ | refine blk_drew ?_ | refine blk_alloc ?_ _)); refine blk_put (cs := #[.int .i64 t123, .int .i64 t124, .bool false]) ?_ 2 _ rfl; (with_reducible repeat (first | refine blk_drewN ?_ _ | refine blk_drew ?_ | refine blk_alloc ?_ _)); refine blk_far ?_ NB122_120.out _; (with_reducible repeat (first | refine blk_drewN ?_ _ | refine blk_drew ?_ | refine blk_alloc ?_ _)); refine blk_far ?_ NB122_120.out _; (with_reducible repeat (first | refine blk_drewN ?_ _ | refine blk_drew ?_ | refine blk_alloc ?_ _)); refine blk_put (cs := #[.int .i64 t123, .int .i64 0, .bool false]) ?_ 1 _ rfl; (with_reducible repeat (first | refine blk_drewN ?_ _ | refine blk_drew ?_ | refine blk_alloc ?_ _)); refine blk_put (cs := #[.int .i64 0, .int .i64 0, .bool false]) ?_ 0 _ rfl; (with_reducible repeat (first | refine blk_drewN ?_ _ | refine blk_drew ?_ | refine blk_alloc ?_ _)); exact BK122.out) k_ hk)); (case aO => exact (by (with_reducible repeat (first | apply Kd.R_alloc | apply Kd.R_drewN | apply Kd.R_drew)); exact Kd.R_mono (Kd.R_far (p := ⟨gb122, 2, none⟩) (Kd.R_far (p := ⟨gb120, 1, none⟩) (Kd.R_far (p := ⟨gb120, 0, none⟩) (Kd.R_far (p := ⟨gb122, 1, none⟩) (Kd.R_far (p := ⟨gb122, 0, none⟩) (Kd.R_types (Kd.R_mono HO_4.out (fun k_ hk => (⟨hk, hk.2⟩ : _ ∧ k_ ≠ gb122))) BK120.out (by decide)) (fun _ hk => hk.1.2) (.int .i64 t123)) (fun _ hk => hk.1.2) (.int .i64 t124)) (fun _ hk => hk.2) (.int .i64 t125)) (fun _ hk => hk.2) (.int .i64 t126)) (fun _ hk => hk.1.2) (.bool t127)) (fun _ hk => hk.1.1.2))); (case aS => exact (below_size (by repeat (first | (with_reducible first | exact HB.out | apply below_alloc | apply pw_below_drewN | apply below_drew1 | refine below_set ?_ GE120.out | refine below_set ?_ GE122.out) | exact HB.out)))); (case aL => have := LMc9.out; omega); intro v129 w18 ho hb hg hat; rw [← Ny128.out] at ho; have n0_ := Aside0.mk (blk_grown (g := gb120) (o := .cells #[.int .i64 t125, .int .i64 t126] 48 (0, 0)) (by (with_reducible repeat (first | refine blk_drewN ?_ _ | refine blk_drew ?_ | refine blk_alloc ?_ _)); refine blk_far ?_ NB120_122.out _; (with_reducible repeat (first | refine blk_drewN ?_ _ | refine blk_drew ?_ | refine blk_alloc ?_ _)); refine blk_put (cs := #[.int .i64 t125, .int .i64 x121001_1]) ?_ 1 _ rfl; (with_reducible repeat (first | refine blk_drewN ?_ _ | refine blk_drew ?_ | refine blk_alloc ?_ _)); refine blk_put (cs := #[.int .i64 x121000_1, .int .i64 x121001_1]) ?_ 0 _ rfl; (with_reducible repeat (first | refine blk_drewN ?_ _ | refine blk_drew ?_ | refine blk_alloc ?_ _)); refine blk_far ?_ NB120_122.out _; (with_reducible repeat (first | refine blk_drewN ?_ _ | refine blk_drew ?_ | refine blk_alloc ?_ _)); refine blk_far ?_ NB120_122.out _; (with_reducible repeat (first | refine blk_drewN ?_ _ | refine blk_drew ?_ | refine blk_alloc ?_ _)); exact BK120.out) hg (Kd.R_ne HO_4.out BK120.out (by decide))); have n1_ := Aside0.mk (blk_grown (g := gb122) (o := .cells #[.int .i64 t123, .int .i64 t124, .bool t127] 72 (0, 0)) (by (with_reducible repeat (first | refine blk_drewN ?_ _ | refine blk_drew ?_ | refine blk_alloc ?_ _)); refine blk_put (cs := #[.int .i64 t123, .int .i64 t124, .bool false]) ?_ 2 _ rfl; (with_reducible repeat (first | refine blk_drewN ?_ _ | refine blk_drew ?_ | refine blk_alloc ?_ _)); refine blk_far ?_ NB122_120.out _; (with_reducible repeat (first | refine blk_drewN ?_ _ | refine blk_drew ?_ | refine blk_alloc ?_ _)); refine blk_far ?_ NB122_120.out _; (with_reducible repeat (first | refine blk_drewN ?_ _ | refine blk_drew ?_ | refine blk_alloc ?_ _)); refine blk_put (cs := #[.int .i64 t123, .int .i64 0, .bool false]) ?_ 1 _ rfl; (with_reducible repeat (first | refine blk_drewN ?_ _ | refine blk_drew ?_ | refine blk_alloc ?_ _)); refine blk_put (cs := #[.int .i64 0, .int .i64 0, .bool false]) ?_ 0 _ rfl; (with_reducible repeat (first | refine blk_drewN ?_ _ | refine blk_drew ?_ | refine blk_alloc ?_ _)); exact BK122.out) hg (Kd.R_away HO_4.out (fun _ hk => hk.2))); have n2_ := Aside0.mk (hb); have n3_ := Aside0.mk (ho); clear BK120; clear BK122; clear HB; clear HO_4; have BK120 := n0_; have BK122 := n1_; have HB := n2_; have HO130 := n3_; clear n0_ n1_ n2_ n3_; clear ho hb hg hat))
     go_roundg k1
     case measure => have := HK1.out; omega
     case rel => exact ⟨(y128), (t125), (t126), H', ⟨by have := HK1.out; omega⟩, ⟨by (with_reducible repeat (first | apply Kd.R_alloc | apply Kd.R_drewN | apply Kd.R_drew)); exact Kd.R_mono HO130.out (fun _ hk => trivial)⟩, ⟨by (with_reducible repeat (first | refine blk_drewN ?_ _ | refine blk_drew ?_ | refine blk_alloc ?_ _)); exact BK120.out⟩, ⟨by repeat (first | (with_reducible first | exact HB.out | apply below_alloc | apply pw_below_drewN | apply below_drew1 | refine below_set ?_ GE120.out | refine below_set ?_ GE122.out) | exact HB.out)⟩⟩
    ·rw [if_neg c9] at H
     exact absurd H (by simp)

end Go.Proofs.Ytmkhkkfliecfdaa.PT

namespace Go.Proofs.Ytmkhkkfliecfdaa.PT
open Go.RowKit Go.Proofs.YtmkhkkfliecfdaaW.PrintWords Go.Proofs.YtmkhkkfliecfdaaW.PrintLast Go.Proofs.Ytmkhkkfliecfdaa.Given Go.Proofs.Ytmkhkkfliecfdaa.Mm
attribute [local go_sem] mx_go mn_go
set_option linter.unusedVariables false
set_option linter.unusedSimpArgs false

attribute [local go_sem high] idx70
/-! ### impl_RangesFindAll: function 17 -/
def impl_RangesFindAll.f (k : Nat) (l0 : List (S24)) (a1_0 : Int) (a1_1 : Int) : Option ((List (S31))) := (impl_inserted.f l0).bind fun t132 => ((impl_given.f a1_0 a1_1).bind fun bt135 => ((ranges_Ranges_FindAll.f k t132 bt135.1 bt135.2).bind fun t137 => ((impl_tellFound.f k t137).bind fun t140 => (some t140))))
theorem impl_RangesFindAll.mono : ∀ a0 a1 a2 k, LeO (impl_RangesFindAll.f k a0 a1 a2) (impl_RangesFindAll.f (k + 1) a0 a1 a2) := by
 intro a0 a1 a2 k
 unfold impl_RangesFindAll.f
 repeat' first
   | (with_reducible exact impl_tellFound.mono _ _)
   | (with_reducible exact ranges_Ranges_FindAll.mono _ _ _ _)
   | (with_reducible exact LeO.refl _)
   | (with_reducible exact LeO.none _)
   | (with_reducible refine LeO.ite ?_ ?_)
   | (with_reducible refine LeO.bind ?_ (fun _ => ?_))
   | exact impl_tellFound.mono _ _
   | exact ranges_Ranges_FindAll.mono _ _ _ _
   | exact LeO.none _
   | refine LeO.ite ?_ ?_
   | refine LeO.bind ?_ (fun _ => ?_)
set_option maxHeartbeats 8000000 in
set_option maxRecDepth 100000 in
theorem impl_RangesFindAll.calls (k : Nat) (A0 : Option Addr) (c0 : Nat) (l0 : List (S24)) (a1_0 : Int) (a1_1 : Int) (r : List (S31)) (w : World) (hr0 : Kd.C k24 w A0 l0.length l0) (hc0 : l0.length ≤ c0) (h : impl_RangesFindAll.f k l0 a1_0 a1_1 = some r) :
  Calls Try.prog 17 #[.slice A0 l0.length c0, .agg #[.int .i64 a1_0, .int .i64 a1_1]] w fun e w' => ∃ v0_ : Value, e = .returned (v0_) ∧ Kd.R k31 31 w' w.heap.size (fun _ => True) v0_ r ∧ Below w.heap.size w w' := by
 have hu24 := Try.underlying24
 have HR0 := Aside0.mk hr0
 have HC0 := Aside0.mk hc0
 clear hr0 hc0
 have HB := Aside0.mk (Below.refl w.heap.size w)
 have H : ((impl_inserted.f l0).bind fun t132 => ((impl_given.f a1_0 a1_1).bind fun bt135 => ((ranges_Ranges_FindAll.f k t132 bt135.1 bt135.2).bind fun t137 => ((impl_tellFound.f k t137).bind fun t140 => (some t140))))) = some r := h
 clear h
 replace H := Option.bind_eq_some_iff.mp H
 obtain ⟨t132, A30, H⟩ := H
 replace H : ((impl_given.f a1_0 a1_1).bind fun bt135 => ((ranges_Ranges_FindAll.f k t132 bt135.1 bt135.2).bind fun t137 => ((impl_tellFound.f k t137).bind fun t140 => (some t140)))) = some r := H
 have A3 := Aside0.mk A30
 clear A30
 replace H := Option.bind_eq_some_iff.mp H
 obtain ⟨⟨t135, t136⟩, A40, H⟩ := H
 replace H : ((ranges_Ranges_FindAll.f k t132 t135 t136).bind fun t137 => ((impl_tellFound.f k t137).bind fun t140 => (some t140))) = some r := H
 have A4 := Aside0.mk A40
 clear A40
 replace H := Option.bind_eq_some_iff.mp H
 obtain ⟨t137, A50, H⟩ := H
 replace H : ((impl_tellFound.f k t137).bind fun t140 => (some t140)) = some r := H
 have A5 := Aside0.mk A50
 clear A50
 replace H := Option.bind_eq_some_iff.mp H
 obtain ⟨t140, A60, H⟩ := H
 replace H : (some t140) = some r := H
 have A6 := Aside0.mk A60
 clear A60
 obtain rfl := Option.some.inj H
 go_enter Try.func17, Try.ntmps17
 try go_wp2_with (first | ((with_reducible refine gate_dst (N := 3) rfl ?_); refine box_event ?hg (N := 3) ?hd (cs := #[.int .i64 a1_0, .int .i64 a1_1]) (t := 24) ?hr ?_; (case hd => rfl); (case hg => rfl); (case hr => first | (go_simp; done) | (go_simp; rfl)); intro gb131 hg w7 hbox hb; have n0_ := Aside0.mk (below_step (by repeat (first | (with_reducible first | exact HB.out | apply below_alloc | apply pw_below_drewN | apply below_drew1) | exact HB.out)) hb); have n1_ := Aside0.mk (hbox); have n2_ := Aside0.mk ((by rw [hg]; exact (below_size (by repeat (first | (with_reducible first | exact HB.out | apply below_alloc | apply pw_below_drewN | apply below_drew1) | exact HB.out))) : w.heap.size ≤ gb131)); have n3_ := Aside0.mk ((by rw [hg]; exact (below_size (by repeat (first | (with_reducible first | exact HB.out | apply below_alloc | apply pw_below_drewN | apply below_drew1) | exact HB.out))) : w.heap.size ≤ gb131)); clear HB; have HB := n0_; have BK131 := n1_; have GW131 := n2_; have GE131 := n3_; clear n0_ n1_ n2_ n3_; clear hb hbox hg))
 have n0_ := Aside0.mk (blk_drew BK131.out)
 have n1_ := Aside0.mk (below_drew1 HB.out)
 clear BK131
 clear HB
 have BK131 := n0_
 have HB := n1_
 clear n0_ n1_
 refine start_ (n := 7) (S := fun w' => w'.cell? ⟨gb131, 0, none⟩ = some (.int .i64 a1_0) ∧ w'.cell? ⟨gb131, 1, none⟩ = some (.int .i64 a1_1)) (ds := []) #[false, false, false, false, false, false, false] (by kernel_rfl) rfl rfl ⟨(blk_cell BK131.out 0).trans rfl, (blk_cell BK131.out 1).trans rfl⟩ (fun hHeld => ?_)
 generalize w7.drew = w8 at BK131 HB hHeld ⊢
 refine pure_ (i := 0) (N := some 5) (v := ?_) (a' := ?_) #[true, false, false, false, false, false, false] rfl rfl (by kernel_rfl) (fun _ _ _ h => h) (Or.inl ⟨by rfl, ?_⟩) ?_ ?_
 rotate_left
 ·intro w'
  go_simp
  with_reducible rfl
 rotate_left
 ·simp only [Act.put, List.setIfInBounds_toArray, List.set_cons_zero, List.set_cons_succ, i64_w, i32_w]
  rfl
 refine take_ (i := 2) (N := some 7) (v := ?_) (a' := ?_) #[true, false, true, false, false, false, false] rfl rfl (by kernel_rfl) (fun _ _ _ h => h) (Or.inl ⟨by rfl, ?_⟩) hHeld ?_ ?_
 rotate_left
 ·rintro w' ⟨s0, s1⟩
  go_simp
  with_reducible rfl
 rotate_left
 ·simp only [Act.put, List.setIfInBounds_toArray, List.set_cons_zero, List.set_cons_succ, i64_w, i32_w]
  rfl
 refine one_ (i := 1) (N := some 6) #[true, true, true, false, false, false, false] rfl rfl (by kernel_rfl) (by decide) (fun K hK => ?_)
 refine goes_ Try.func32 (by kernel_rfl) rfl #[.slice A0 l0.length c0] (by rfl) rfl rfl (by (try simp only [List.map_toArray, List.map_cons, List.map_nil]); first | done | rfl | (simp only [List.length_drop, List.length_take]; rfl)) ?_
 with_reducible refine (impl_inserted.calls _ _ l0 t132 _ ?side1 ?side2 A3.out).mono ?_
 (case side1 => repeat (first | exact (Kd.C_below HR0.out HB.out) | (with_reducible refine Kd.C_alloc ?_ _) | (with_reducible refine Kd.C_drewN ?_ _) | (with_reducible refine Kd.C_drew ?_)))
 (case side2 => exact HC0.out)
 rintro e w9 ⟨v133, rfl, ho0, hb⟩
 refine ⟨_, rfl, ?_⟩
 have n0_ := Aside0.mk (Kd.R_lower ho0 (below_size (by repeat (first | (with_reducible first | exact HB.out | apply below_alloc | apply pw_below_drewN | apply below_drew1 | refine below_set ?_ GE131.out) | exact HB.out))))
 have n1_ := Aside0.mk (blk_below (g := gb131) (o := .cells #[.int .i64 a1_0, .int .i64 a1_1] 24 (0, 0)) (by (with_reducible repeat (first | refine blk_drewN ?_ _ | refine blk_drew ?_ | refine blk_alloc ?_ _)); exact BK131.out) hb)
 have n2_ := Aside0.mk (below_step (by repeat (first | (with_reducible first | exact HB.out | apply below_alloc | apply pw_below_drewN | apply below_drew1 | refine below_set ?_ GE131.out) | exact HB.out)) hb)
 clear BK131
 clear HB
 have HO134 := n0_
 have BK131 := n1_
 have HB := n2_
 clear n0_ n1_ n2_
 (try clear hb)
 (try clear hb2)
 (try clear hk)
 (try clear hi)
 (try clear ho0)
 refine hK.out _ _ ⟨(blk_cell BK131.out 0).trans rfl, (blk_cell BK131.out 1).trans rfl⟩ (fun hHeld => ?_)
 clear hK K
 refine norm_ (a' := ?_) ?_ ?_
 rotate_left
 ·show Act.put _ (some 6) _ = _
  simp only [Act.put, List.setIfInBounds_toArray, List.set_cons_zero, List.set_cons_succ, i64_w, i32_w]
  rfl
 refine one_ (i := 3) (N := some 8) #[true, true, true, true, false, false, false] rfl rfl (by kernel_rfl) (by decide) (fun K hK => ?_)
 refine goes_ Try.func34 (by kernel_rfl) rfl #[.agg #[.int .i64 a1_0, .int .i64 a1_1]] (by rfl) rfl rfl (by (try simp only [List.map_toArray, List.map_cons, List.map_nil]); first | done | rfl | (simp only [List.length_drop, List.length_take]; rfl)) ?_
 with_reducible refine (impl_given.calls a1_0 a1_1 t135 t136 _ A4.out).mono ?_
 rintro e w10 ⟨rfl, hb⟩
 refine ⟨_, rfl, ?_⟩
 have n0_ := Aside0.mk (Kd.R_below (by (with_reducible repeat (first | apply Kd.R_alloc | apply Kd.R_drewN | apply Kd.R_drew)); exact HO134.out) hb)
 have n1_ := Aside0.mk (blk_below (g := gb131) (o := .cells #[.int .i64 a1_0, .int .i64 a1_1] 24 (0, 0)) (by (with_reducible repeat (first | refine blk_drewN ?_ _ | refine blk_drew ?_ | refine blk_alloc ?_ _)); exact BK131.out) hb)
 have n2_ := Aside0.mk (below_step (by repeat (first | (with_reducible first | exact HB.out | apply below_alloc | apply pw_below_drewN | apply below_drew1 | refine below_set ?_ GE131.out) | exact HB.out)) hb)
 clear HO134
 clear BK131
 clear HB
 have HO134 := n0_
 have BK131 := n1_
 have HB := n2_
 clear n0_ n1_ n2_
 (try clear hb)
 (try clear hb2)
 (try clear hk)
 (try clear hi)
 obtain ⟨Ao11, co11, eo11⟩ := Kd.R_slice HO134.out
 (first | subst eo11 | (injection eo11 with f1_ f2_ f3_; have f4_ := f1_.symm; have f5_ := f3_.symm; clear f1_ f2_ f3_; subst f4_; subst f5_))
 refine hK.out _ _ ⟨(blk_cell BK131.out 0).trans rfl, (blk_cell BK131.out 1).trans rfl⟩ (fun hHeld => ?_)
 clear hK K
 refine norm_ (a' := ?_) ?_ ?_
 rotate_left
 ·show Act.put _ (some 8) _ = _
  simp only [Act.put, List.setIfInBounds_toArray, List.set_cons_zero, List.set_cons_succ, i64_w, i32_w]
  rfl
 refine one_ (i := 4) (N := some 9) #[true, true, true, true, true, false, false] rfl rfl (by kernel_rfl) (by decide) (fun K hK => ?_)
 refine goes_ Try.func39 (by kernel_rfl) rfl #[.slice Ao11 t132.length co11, .agg #[.int .i64 t135, .int .i64 t136]] (by rfl) rfl rfl (by (try simp only [List.map_toArray, List.map_cons, List.map_nil]); first | done | rfl | (simp only [List.length_drop, List.length_take]; rfl)) ?_
 with_reducible refine (ranges_Ranges_FindAll.calls k _ _ t132 t135 t136 t137 _ ?side1 ?side2 A5.out).mono ?_
 (case side1 => repeat (first | exact (Kd.R_reads' HO134.out).2.2 | (with_reducible refine Kd.C_alloc ?_ _) | (with_reducible refine Kd.C_drewN ?_ _) | (with_reducible refine Kd.C_drew ?_)))
 (case side2 => exact (Kd.R_reads' HO134.out).2.1)
 rintro e w12 ⟨v138, rfl, ho0, hb⟩
 refine ⟨_, rfl, ?_⟩
 have n0_ := Aside0.mk (Kd.R_below (by (with_reducible repeat (first | apply Kd.R_alloc | apply Kd.R_drewN | apply Kd.R_drew)); exact HO134.out) hb)
 have n1_ := Aside0.mk (Kd.R_lower ho0 (below_size (by repeat (first | (with_reducible first | exact HB.out | apply below_alloc | apply pw_below_drewN | apply below_drew1 | refine below_set ?_ GE131.out) | exact HB.out))))
 have n2_ := Aside0.mk (blk_below (g := gb131) (o := .cells #[.int .i64 a1_0, .int .i64 a1_1] 24 (0, 0)) (by (with_reducible repeat (first | refine blk_drewN ?_ _ | refine blk_drew ?_ | refine blk_alloc ?_ _)); exact BK131.out) hb)
 have n3_ := Aside0.mk (below_step (by repeat (first | (with_reducible first | exact HB.out | apply below_alloc | apply pw_below_drewN | apply below_drew1 | refine below_set ?_ GE131.out) | exact HB.out)) hb)
 clear HO134
 clear BK131
 clear HB
 have HO134 := n0_
 have HO139 := n1_
 have BK131 := n2_
 have HB := n3_
 clear n0_ n1_ n2_ n3_
 (try clear hb)
 (try clear hb2)
 (try clear hk)
 (try clear hi)
 (try clear ho0)
 obtain ⟨Ao13, co13, eo13⟩ := Kd.R_slice HO139.out
 (first | subst eo13 | (injection eo13 with f1_ f2_ f3_; have f4_ := f1_.symm; have f5_ := f3_.symm; clear f1_ f2_ f3_; subst f4_; subst f5_))
 refine hK.out _ _ ⟨(blk_cell BK131.out 0).trans rfl, (blk_cell BK131.out 1).trans rfl⟩ (fun hHeld => ?_)
 clear hK K
 refine norm_ (a' := ?_) ?_ ?_
 rotate_left
 ·show Act.put _ (some 9) _ = _
  simp only [Act.put, List.setIfInBounds_toArray, List.set_cons_zero, List.set_cons_succ, i64_w, i32_w]
  rfl
 refine one_ (i := 5) (N := some 10) #[true, true, true, true, true, true, false] rfl rfl (by kernel_rfl) (by decide) (fun K hK => ?_)
 refine goes_ Try.func38 (by kernel_rfl) rfl #[.slice Ao13 t137.length co13] (by rfl) rfl rfl (by (try simp only [List.map_toArray, List.map_cons, List.map_nil]); first | done | rfl | (simp only [List.length_drop, List.length_take]; rfl)) ?_
 with_reducible refine (impl_tellFound.calls k _ _ t137 t140 _ ?side1 ?side2 A6.out).mono ?_
 (case side1 => repeat (first | exact (Kd.R_reads' HO139.out).2.2 | (with_reducible refine Kd.C_alloc ?_ _) | (with_reducible refine Kd.C_drewN ?_ _) | (with_reducible refine Kd.C_drew ?_)))
 (case side2 => exact (Kd.R_reads' HO139.out).2.1)
 rintro e w14 ⟨v141, rfl, ho0, hb⟩
 refine ⟨_, rfl, ?_⟩
 have n0_ := Aside0.mk (Kd.R_below (by (with_reducible repeat (first | apply Kd.R_alloc | apply Kd.R_drewN | apply Kd.R_drew)); exact HO134.out) hb)
 have n1_ := Aside0.mk (Kd.R_below (by (with_reducible repeat (first | apply Kd.R_alloc | apply Kd.R_drewN | apply Kd.R_drew)); exact HO139.out) hb)
 have n2_ := Aside0.mk (Kd.R_lower ho0 (below_size (by repeat (first | (with_reducible first | exact HB.out | apply below_alloc | apply pw_below_drewN | apply below_drew1 | refine below_set ?_ GE131.out) | exact HB.out))))
 have n3_ := Aside0.mk (blk_below (g := gb131) (o := .cells #[.int .i64 a1_0, .int .i64 a1_1] 24 (0, 0)) (by (with_reducible repeat (first | refine blk_drewN ?_ _ | refine blk_drew ?_ | refine blk_alloc ?_ _)); exact BK131.out) hb)
 have n4_ := Aside0.mk (below_step (by repeat (first | (with_reducible first | exact HB.out | apply below_alloc | apply pw_below_drewN | apply below_drew1 | refine below_set ?_ GE131.out) | exact HB.out)) hb)
 clear HO134
 clear HO139
 clear BK131
 clear HB
 have HO134 := n0_
 have HO139 := n1_
 have HO142 := n2_
 have BK131 := n3_
 have HB := n4_
 clear n0_ n1_ n2_ n3_ n4_
 (try clear hb)
 (try clear hb2)
 (try clear hk)
 (try clear hi)
 (try clear ho0)
 refine hK.out _ _ ⟨(blk_cell BK131.out 0).trans rfl, (blk_cell BK131.out 1).trans rfl⟩ (fun hHeld => ?_)
 clear hK K
 refine norm_ (a' := ?_) ?_ ?_
 rotate_left
 ·show Act.put _ (some 10) _ = _
  simp only [Act.put, List.setIfInBounds_toArray, List.set_cons_zero, List.set_cons_succ, i64_w, i32_w]
  rfl
 refine pure_ (i := 6) (N := some 4) (v := ?_) (a' := ?_) #[true, true, true, true, true, true, true] rfl rfl (by kernel_rfl) (fun _ _ _ h => h) (Or.inl ⟨by rfl, ?_⟩) ?_ ?_
 rotate_left
 ·intro w'
  go_simp
  with_reducible rfl
 rotate_left
 ·simp only [Act.put, List.setIfInBounds_toArray, List.set_cons_zero, List.set_cons_succ, i64_w, i32_w]
  rfl
 refine done_ (by kernel_rfl) ?_
 try go_wp2
 go_ret
 exact ⟨_, by first | rfl | (simp [errW_none, errW_some] <;> rfl) | (simp [*, errW_none, errW_some] <;> rfl), by (with_reducible repeat (first | apply Kd.R_alloc | apply Kd.R_drewN | apply Kd.R_drew)); exact HO142.out, by repeat (first | (with_reducible first | exact HB.out | apply below_alloc | apply pw_below_drewN | apply below_drew1 | refine below_set ?_ GE131.out) | exact HB.out)⟩

end Go.Proofs.Ytmkhkkfliecfdaa.PT

namespace Go.Proofs.Ytmkhkkfliecfdaa.PT
open Go.RowKit Go.Proofs.YtmkhkkfliecfdaaW.PrintWords Go.Proofs.YtmkhkkfliecfdaaW.PrintLast Go.Proofs.Ytmkhkkfliecfdaa.Given Go.Proofs.Ytmkhkkfliecfdaa.Mm
attribute [local go_sem] mx_go mn_go
set_option linter.unusedVariables false
set_option linter.unusedSimpArgs false

attribute [local go_sem high] idx70
attribute [local go_sem high] eqA24
/-! ### spec_RangesSame: function 25 -/
def spec_RangesSame.l0 : Nat → List (S24) → List (S24) → Int → Int → Option (Bool)
 | 0, _, _, _, _ => none
 | k + 1, x0, x1, x12, x13 => if x13 < x12 then (if 0 ≤ x13 then (if x13 < (x0.length : Int) then (if x13 < (x1.length : Int) then (if (!(((rd_T24 x0 x13).f0) == ((rd_T24 x1 x13).f0)) || (!(((rd_T24 x0 x13).f1) == ((rd_T24 x1 x13).f1)))) = true then (some false) else (spec_RangesSame.l0 k x0 x1 x12 (wrap64 (x13 + 1)))) else (none)) else (none)) else (none)) else (some true)
def spec_RangesSame.f (k : Nat) (l0 : List (S24)) (l1 : List (S24)) : Option (Bool) := if (l0.length : Int) = (l1.length : Int) then (spec_RangesSame.l0 k l0 l1 (l0.length : Int) 0) else (some false)
theorem spec_RangesSame.mono_l : ∀ k, (∀ y0 y1 y2 y3, LeO (spec_RangesSame.l0 k y0 y1 y2 y3) (spec_RangesSame.l0 (k + 1) y0 y1 y2 y3))
 | 0 => fun _ _ _ _ r h => by simp [spec_RangesSame.l0] at h
 | k + 1 => by
  have ih0 := spec_RangesSame.mono_l k
  ·intro y0 y1 y2 y3
   unfold spec_RangesSame.l0
   repeat' first
   | (with_reducible exact ih0 _ _ _ _)
   | (with_reducible exact LeO.refl _)
   | (with_reducible exact LeO.none _)
   | (with_reducible refine LeO.ite ?_ ?_)
   | (with_reducible refine LeO.bind ?_ (fun _ => ?_))
   | exact ih0 _ _ _ _
   | exact LeO.none _
   | refine LeO.ite ?_ ?_
   | refine LeO.bind ?_ (fun _ => ?_)
theorem spec_RangesSame.mono : ∀ a0 a1 k, LeO (spec_RangesSame.f k a0 a1) (spec_RangesSame.f (k + 1) a0 a1) := by
 intro a0 a1 k
 have ih0 := spec_RangesSame.mono_l k
 unfold spec_RangesSame.f
 repeat' first
   | (with_reducible exact ih0 _ _ _ _)
   | (with_reducible exact LeO.refl _)
   | (with_reducible exact LeO.none _)
   | (with_reducible refine LeO.ite ?_ ?_)
   | (with_reducible refine LeO.bind ?_ (fun _ => ?_))
   | exact ih0 _ _ _ _
   | exact LeO.none _
   | refine LeO.ite ?_ ?_
   | refine LeO.bind ?_ (fun _ => ?_)
set_option maxHeartbeats 8000000 in
set_option maxRecDepth 100000 in
theorem spec_RangesSame.calls (k : Nat) (A0 : Option Addr) (c0 : Nat) (l0 : List (S24)) (A1 : Option Addr) (c1 : Nat) (l1 : List (S24)) (r : Bool) (w : World) (hr0 : Kd.C k24 w A0 l0.length l0) (hc0 : l0.length ≤ c0) (hr1 : Kd.C k24 w A1 l1.length l1) (hc1 : l1.length ≤ c1) (h : spec_RangesSame.f k l0 l1 = some r) :
  Calls Try.prog 25 #[.slice A0 l0.length c0, .slice A1 l1.length c1] w fun e w' => e = .returned (.bool r) ∧ Drawn0 w w' := by
 have hu24 := Try.underlying24
 have HR0 := Aside0.mk hr0
 have HC0 := Aside0.mk hc0
 clear hr0 hc0
 have HR1 := Aside0.mk hr1
 have HC1 := Aside0.mk hc1
 clear hr1 hc1
 have H : (if (l0.length : Int) = (l1.length : Int) then (spec_RangesSame.l0 k l0 l1 (l0.length : Int) 0) else (some false)) = some r := h
 clear h
 by_cases c3 : (l0.length : Int) = (l1.length : Int)
 ·rw [if_pos c3] at H
  have c3b0 : ((l0.length : Int) == (l1.length : Int)) = true := beq_iff_eq.mpr c3
  have c3b1 : ((l0.length : Int) != (l1.length : Int)) = false := bne_eq_false_iff_eq.mpr c3
  have c3b2 : (l0.length == l1.length) = true := by first | simpa using c3 | (simp at c3 ⊢; omega)
  clear c3
  have H' := Aside0.mk H
  clear H
  go_enter Try.func25, Try.ntmps25
  go_wp2
  repeat (go_quiet (fail); try go_wp2)
  go_loopg [13] k (fun kq v13 w' => ∃ (x13_1 : Int), v13 = .int .i64 x13_1 ∧ Aside0 (spec_RangesSame.l0 kq l0 l1 (l0.length : Int) x13_1 = some r) ∧ Aside0 (kq ≤ k) ∧ Drawn0 w w')
  case atStart => exact ⟨(0), (by first | rfl | (simp; done) | (simp [*]; done)), H', ⟨Nat.le_refl _⟩, by repeat (first | exact Drawn0.refl _ | apply Drawn0.step)⟩
  case round =>
   clear H'
   try clear c1
   try clear c2
   try clear p2
   try clear c3
   try clear c3b0
   try clear c3b1
   try clear c3b2
   obtain ⟨x13_1, rfl, HA, HK1, ⟨m1, rfl⟩⟩ := hrel
   cases gk with
   | zero => exact absurd HA.out (by simp [spec_RangesSame.l0])
   | succ k1 =>
    have H := HA.out
    clear HA
    simp only [spec_RangesSame.l0] at H
    by_cases c4 : x13_1 < (l0.length : Int)
    ·rw [if_pos c4] at H
     have c4b0 : decide (x13_1 < (l0.length : Int)) = true := decide_eq_true c4
     clear c4
     by_cases c5 : 0 ≤ x13_1
     ·rw [if_pos c5] at H
      have c5b0 : decide (0 ≤ x13_1) = true := decide_eq_true c5
      clear c5
      by_cases c6 : x13_1 < (l0.length : Int)
      ·rw [if_pos c6] at H
       have c6b0 : decide (x13_1 < (l0.length : Int)) = true := decide_eq_true c6
       clear c6
       by_cases c7 : x13_1 < (l1.length : Int)
       ·rw [if_pos c7] at H
        have c7b0 : decide (x13_1 < (l1.length : Int)) = true := decide_eq_true c7
        clear c7
        by_cases c8 : (!(((rd_T24 l0 x13_1).f0) == ((rd_T24 l1 x13_1).f0)) || (!(((rd_T24 l0 x13_1).f1) == ((rd_T24 l1 x13_1).f1)))) = true
        ·rw [if_pos c8] at H
         have c8b0 : (!(((rd_T24 l0 x13_1).f0) == ((rd_T24 l1 x13_1).f0)) || (!(((rd_T24 l0 x13_1).f1) == ((rd_T24 l1 x13_1).f1)))) = true := c8
         clear c8
         obtain rfl := Option.some.inj H
         have p143 : 0 ≤ (x13_1 : Int) := of_decide_eq_true (by first | (with_reducible assumption) | assumption)
         have q143 : x13_1 < (l0.length : Int) := of_decide_eq_true (by first | (with_reducible assumption) | assumption)
         obtain ⟨ad143, e143, hx143_0, hx143_1⟩ := at_T24 HR0.out x13_1 p143 q143
         cases e143
         replace p143 := eq_true p143
         replace q143 := eq_true q143
         have p144 : 0 ≤ (x13_1 : Int) := of_decide_eq_true (by first | (with_reducible assumption) | assumption)
         have q144 : x13_1 < (l1.length : Int) := of_decide_eq_true (by first | (with_reducible assumption) | assumption)
         obtain ⟨ad144, e144, hx144_0, hx144_1⟩ := at_T24 HR1.out x13_1 p144 q144
         cases e144
         replace p144 := eq_true p144
         replace q144 := eq_true q144
         go_wp2
         repeat (go_quiet (fail); try go_wp2)
         go_ret
         exact ⟨by first | rfl | (simp; done) | (simp [*]; done), by repeat (first | exact Drawn0.refl _ | apply Drawn0.step)⟩
        ·rw [if_neg c8] at H
         have c8b0 : (!(((rd_T24 l0 x13_1).f0) == ((rd_T24 l1 x13_1).f0)) || (!(((rd_T24 l0 x13_1).f1) == ((rd_T24 l1 x13_1).f1)))) = false := by simpa using c8
         clear c8
         have H' := Aside0.mk H
         clear H
         have p143 : 0 ≤ (x13_1 : Int) := of_decide_eq_true (by first | (with_reducible assumption) | assumption)
         have q143 : x13_1 < (l0.length : Int) := of_decide_eq_true (by first | (with_reducible assumption) | assumption)
         obtain ⟨ad143, e143, hx143_0, hx143_1⟩ := at_T24 HR0.out x13_1 p143 q143
         cases e143
         replace p143 := eq_true p143
         replace q143 := eq_true q143
         have p144 : 0 ≤ (x13_1 : Int) := of_decide_eq_true (by first | (with_reducible assumption) | assumption)
         have q144 : x13_1 < (l1.length : Int) := of_decide_eq_true (by first | (with_reducible assumption) | assumption)
         obtain ⟨ad144, e144, hx144_0, hx144_1⟩ := at_T24 HR1.out x13_1 p144 q144
         cases e144
         replace p144 := eq_true p144
         replace q144 := eq_true q144
         go_wp2
         repeat (go_quiet (fail); try go_wp2)
         go_roundg k1
         case measure => have := HK1.out; omega
         case rel => exact ⟨(wrap64 (x13_1 + 1)), (by first | rfl | (simp; done) | (simp [*]; done)), H', ⟨by have := HK1.out; omega⟩, by repeat (first | exact Drawn0.refl _ | apply Drawn0.step)⟩
       ·rw [if_neg c7] at H
        exact absurd H (by simp)
      ·rw [if_neg c6] at H
       exact absurd H (by simp)
     ·rw [if_neg c5] at H
      exact absurd H (by simp)
    ·rw [if_neg c4] at H
     have c4b0 : decide (x13_1 < (l0.length : Int)) = false := decide_eq_false c4
     clear c4
     obtain rfl := Option.some.inj H
     go_wp2
     repeat (go_quiet (fail); try go_wp2)
     go_ret
     exact ⟨by first | rfl | (simp; done) | (simp [*]; done), by repeat (first | exact Drawn0.refl _ | apply Drawn0.step)⟩
 ·rw [if_neg c3] at H
  have c3b0 : ((l0.length : Int) == (l1.length : Int)) = false := beq_eq_false_iff_ne.mpr c3
  have c3b1 : ((l0.length : Int) != (l1.length : Int)) = true := bne_iff_ne.mpr c3
  have c3b2 : (l0.length == l1.length) = false := by first | simpa using c3 | (simp at c3 ⊢; omega)
  obtain rfl := Option.some.inj H
  go_enter Try.func25, Try.ntmps25
  go_wp2
  repeat (go_quiet (fail); try go_wp2)
  go_ret
  exact ⟨by first | rfl | (simp; done) | (simp [*]; done), by repeat (first | exact Drawn0.refl _ | apply Drawn0.step)⟩

end Go.Proofs.Ytmkhkkfliecfdaa.PT

namespace Go.Proofs.Ytmkhkkfliecfdaa.PT
open Go.RowKit Go.Proofs.YtmkhkkfliecfdaaW.PrintWords Go.Proofs.YtmkhkkfliecfdaaW.PrintLast Go.Proofs.Ytmkhkkfliecfdaa.Given Go.Proofs.Ytmkhkkfliecfdaa.Mm
attribute [local go_sem] mx_go mn_go
set_option linter.unusedVariables false
set_option linter.unusedSimpArgs false

attribute [local go_sem high] idx70
/-! ### impl_tellAll: function 47 -/
def impl_tellAll.l0 : Nat → List (S24) → List (S48) → Int → Int → Option ((List (S24)))
 | 0, _, _, _, _ => none
 | k + 1, x3, x6, x7, x8 => if x8 < x7 then (if 0 ≤ x8 then (if x8 < (x6.length : Int) then ((impl_told.f ((rd_T48 x6 x8).f0) ((rd_T48 x6 x8).f1)).bind fun bt147 => (if x3.length < 8796093022208 then (impl_tellAll.l0 k (x3 ++ [(⟨bt147.1, bt147.2⟩ : S24)]) x6 x7 (wrap64 (x8 + 1))) else (none))) else (none)) else (none)) else (some x3)
def impl_tellAll.f (k : Nat) (l0 : List (S48)) : Option ((List (S24))) := impl_tellAll.l0 k ([] : List (S24)) l0 (l0.length : Int) 0
theorem impl_tellAll.mono_l : ∀ k, (∀ y0 y1 y2 y3, LeO (impl_tellAll.l0 k y0 y1 y2 y3) (impl_tellAll.l0 (k + 1) y0 y1 y2 y3))
 | 0 => fun _ _ _ _ r h => by simp [impl_tellAll.l0] at h
 | k + 1 => by
  have ih0 := impl_tellAll.mono_l k
  ·intro y0 y1 y2 y3
   unfold impl_tellAll.l0
   repeat' first
   | (with_reducible exact ih0 _ _ _ _)
   | (with_reducible exact LeO.refl _)
   | (with_reducible exact LeO.none _)
   | (with_reducible refine LeO.ite ?_ ?_)
   | (with_reducible refine LeO.bind ?_ (fun _ => ?_))
   | exact ih0 _ _ _ _
   | exact LeO.none _
   | refine LeO.ite ?_ ?_
   | refine LeO.bind ?_ (fun _ => ?_)
theorem impl_tellAll.mono : ∀ a0 k, LeO (impl_tellAll.f k a0) (impl_tellAll.f (k + 1) a0) := by
 intro a0 k
 have ih0 := impl_tellAll.mono_l k
 unfold impl_tellAll.f
 repeat' first
   | (with_reducible exact ih0 _ _ _ _)
   | (with_reducible exact LeO.refl _)
   | (with_reducible exact LeO.none _)
   | (with_reducible refine LeO.ite ?_ ?_)
   | (with_reducible refine LeO.bind ?_ (fun _ => ?_))
   | exact ih0 _ _ _ _
   | exact LeO.none _
   | refine LeO.ite ?_ ?_
   | refine LeO.bind ?_ (fun _ => ?_)
set_option maxHeartbeats 8000000 in
set_option maxRecDepth 100000 in
theorem impl_tellAll.calls (k : Nat) (A0 : Option Addr) (c0 : Nat) (l0 : List (S48)) (r : List (S24)) (w : World) (hr0 : Kd.C k48 w A0 l0.length l0) (hc0 : l0.length ≤ c0) (h : impl_tellAll.f k l0 = some r) :
  Calls Try.prog 47 #[.slice A0 l0.length c0] w fun e w' => ∃ v0_ : Value, e = .returned (v0_) ∧ Kd.R k24 24 w' w.heap.size (fun _ => True) v0_ r ∧ Below w.heap.size w w' := by
 have hu48 := Try.underlying48
 have HR0 := Aside0.mk hr0
 have HC0 := Aside0.mk hc0
 clear hr0 hc0
 have HB := Aside0.mk (Below.refl w.heap.size w)
 have H : (impl_tellAll.l0 k ([] : List (S24)) l0 (l0.length : Int) 0) = some r := h
 clear h
 have H' := Aside0.mk H
 clear H
 go_enter Try.func47, Try.ntmps47
 go_wp2
 go_loopg [3, 8] k (fun kq v3 v8 w' => ∃ (x3_1 : List (S24)) (x8_1 : Int), v8 = .int .i64 x8_1 ∧ Aside0 (impl_tellAll.l0 kq x3_1 l0 (l0.length : Int) x8_1 = some r) ∧ Aside0 (kq ≤ k) ∧ Aside0 (Kd.R k24 24 w' w.heap.size (fun _ => True) v3 x3_1) ∧ Aside0 (Below w.heap.size w w'))
 case atStart => exact ⟨(([] : List (S24))), (0), (by first | rfl | (simp; done) | (simp [*]; done)), H', ⟨Nat.le_refl _⟩, ⟨by first | exact Kd.R_nil _ _ _ _ _ | exact Kd.N_nil _ _ _ _ _ | exact Kd.V_nil _ _ _ _ _ | exact Kd.Q_nil _ _ _ _ _ | exact Kd.S_nil _ _ _ _ _⟩, ⟨by repeat (first | (with_reducible first | exact HB.out | apply below_alloc | apply pw_below_drewN | apply below_drew1) | exact HB.out)⟩⟩
 case round =>
  clear H'
  obtain ⟨x3_1, x8_1, rfl, HA, HK1, HO_3, HB⟩ := hrel
  cases gk with
  | zero => exact absurd HA.out (by simp [impl_tellAll.l0])
  | succ k1 =>
   have H := HA.out
   clear HA
   simp only [impl_tellAll.l0] at H
   by_cases c2 : x8_1 < (l0.length : Int)
   ·rw [if_pos c2] at H
    have c2b0 : decide (x8_1 < (l0.length : Int)) = true := decide_eq_true c2
    clear c2
    by_cases c3 : 0 ≤ x8_1
    ·rw [if_pos c3] at H
     have c3b0 : decide (0 ≤ x8_1) = true := decide_eq_true c3
     clear c3
     by_cases c4 : x8_1 < (l0.length : Int)
     ·rw [if_pos c4] at H
      have c4b0 : decide (x8_1 < (l0.length : Int)) = true := decide_eq_true c4
      clear c4
      replace H := Option.bind_eq_some_iff.mp H
      obtain ⟨⟨t147, t148⟩, A50, H⟩ := H
      replace H : (if x3_1.length < 8796093022208 then (impl_tellAll.l0 k1 (x3_1 ++ [(⟨t147, t148⟩ : S24)]) l0 (l0.length : Int) (wrap64 (x8_1 + 1))) else (none)) = some r := H
      have A5 := Aside0.mk A50
      clear A50
      by_cases c6 : x3_1.length < 8796093022208
      ·rw [if_pos c6] at H
       have LMc6 := Aside0.mk c6
       clear c6
       obtain ⟨y149, hy149⟩ : ∃ y_ : List (S24), y_ = (x3_1 ++ [(⟨t147, t148⟩ : S24)]) := ⟨_, rfl⟩
       replace H : (impl_tellAll.l0 k1 y149 l0 (l0.length : Int) (wrap64 (x8_1 + 1))) = some r := by first | (rw [hy149]; with_reducible exact H) | (have H2_ := (Option.bind_some _ _).symm.trans H; rw [hy149]; with_reducible exact H2_) | (have H2_ := (Option.bind_some _ _).symm.trans H; with_reducible exact H2_) | with_reducible exact H | (rw [hy149]; exact H) | exact H
       have Ny149 := Aside0.mk hy149
       clear hy149
       have H' := Aside0.mk H
       clear H
       have p145 : 0 ≤ (x8_1 : Int) := of_decide_eq_true (by first | (with_reducible assumption) | assumption)
       have q145 : x8_1 < (l0.length : Int) := of_decide_eq_true (by first | (with_reducible assumption) | assumption)
       obtain ⟨ad145, e145, hx145_0, hx145_1⟩ := at_T48 HR0.out x8_1 p145 q145
       cases e145
       replace hx145_0 := (HB.out.cell (World.block_lt_of_cell? w _ hx145_0)).trans hx145_0
       replace hx145_1 := (HB.out.cell (World.block_lt_of_cell? w _ hx145_1)).trans hx145_1
       replace p145 := eq_true p145
       replace q145 := eq_true q145
       go_wp2_with (first | ((with_reducible refine gate_dst (N := 5) rfl ?_); refine box_event ?hg (N := 5) ?hd (cs := #[.int .i64 0, .int .i64 0]) (t := 48) ?hr ?_; (case hd => rfl); (case hg => rfl); (case hr => first | (go_simp; done) | (go_simp; rfl)); intro gb146 hg w7 hbox hb; have n0_ := Aside0.mk (Kd.R_below (by (with_reducible repeat (first | apply Kd.R_alloc | apply Kd.R_drewN | apply Kd.R_drew)); exact HO_3.out) hb); have n1_ := Aside0.mk (below_step (by repeat (first | (with_reducible first | exact HB.out | apply below_alloc | apply pw_below_drewN | apply below_drew1) | exact HB.out)) hb); have n2_ := Aside0.mk (hbox); have n3_ := Aside0.mk ((by rw [hg]; exact (below_size (by repeat (first | (with_reducible first | exact HB.out | apply below_alloc | apply pw_below_drewN | apply below_drew1) | exact HB.out))) : w.heap.size ≤ gb146)); have n4_ := Aside0.mk ((by rw [hg]; exact (below_size (by repeat (first | (with_reducible first | exact HB.out | apply below_alloc | apply pw_below_drewN | apply below_drew1) | exact HB.out))) : w.heap.size ≤ gb146)); clear HO_3; clear HB; have HO_3 := n0_; have HB := n1_; have BK146 := n2_; have GW146 := n3_; have GE146 := n4_; clear n0_ n1_ n2_ n3_ n4_; clear hb hbox hg; have hcz8_0 : w7.cell? ⟨gb146, 0, none⟩ = some (.int .i64 0) := (blk_cell BK146.out 0).trans rfl; have hcz8_1 : w7.cell? ⟨gb146, 1, none⟩ = some (.int .i64 0) := (blk_cell BK146.out 1).trans rfl; have hfz8_0 := blk_frozen BK146.out 0; have hfz8_1 := blk_frozen BK146.out 1) | ((with_reducible refine gate_dst (N := 14) rfl ?_); refine goesL_ (some 14) rfl rfl Try.func35 (by kernel_rfl) rfl #[.agg #[.int .i64 ((rd_T48 l0 x8_1).f0), .int .i64 ((rd_T48 l0 x8_1).f1)]] rfl (by (try simp only [List.map_toArray, List.map_cons, List.map_nil]); first | done | rfl | (simp only [List.length_drop, List.length_take]; rfl)) ?_; (with_reducible refine (impl_told.calls ((rd_T48 l0 x8_1).f0) ((rd_T48 l0 x8_1).f1) t147 t148 _ A5.out).mono ?_); rintro e w9 ⟨rfl, hb⟩; refine ⟨_, rfl, ?_⟩; have n0_ := Aside0.mk (Kd.R_below (by (with_reducible repeat (first | apply Kd.R_alloc | apply Kd.R_drewN | apply Kd.R_drew)); exact (Kd.R_mono (Kd.R_far (p := ⟨gb146, 1, none⟩) (Kd.R_far (p := ⟨gb146, 0, none⟩) (Kd.R_types HO_3.out BK146.out (by decide)) (fun _ hk => hk.2) (.int .i64 ((rd_T48 l0 x8_1).f0))) (fun _ hk => hk.2) (.int .i64 ((rd_T48 l0 x8_1).f1))) (fun _ h_ => h_.1))) hb); have n1_ := Aside0.mk (blk_below (g := gb146) (o := .cells #[.int .i64 ((rd_T48 l0 x8_1).f0), .int .i64 ((rd_T48 l0 x8_1).f1)] 48 (0, 0)) (by (with_reducible repeat (first | refine blk_drewN ?_ _ | refine blk_drew ?_ | refine blk_alloc ?_ _)); refine blk_put (cs := #[.int .i64 ((rd_T48 l0 x8_1).f0), .int .i64 0]) ?_ 1 _ rfl; (with_reducible repeat (first | refine blk_drewN ?_ _ | refine blk_drew ?_ | refine blk_alloc ?_ _)); refine blk_put (cs := #[.int .i64 0, .int .i64 0]) ?_ 0 _ rfl; (with_reducible repeat (first | refine blk_drewN ?_ _ | refine blk_drew ?_ | refine blk_alloc ?_ _)); exact BK146.out) hb); have n2_ := Aside0.mk (below_step (by repeat (first | (with_reducible first | exact HB.out | apply below_alloc | apply pw_below_drewN | apply below_drew1 | refine below_set ?_ GE146.out) | exact HB.out)) hb); clear HO_3; clear BK146; clear HB; have HO_3 := n0_; have BK146 := n1_; have HB := n2_; clear n0_ n1_ n2_; (try clear hb); (try clear hb2); (try clear hk); (try clear hi)) | (at_builtin; refine Kd.R_append k24 (w0 := w) w.heap.size rfl (.tmp 12) (.tmp 15) 22 24 (.agg #[(.int .i64 0), (.int .i64 0)]) 16 rfl Try.underlying22 info24 rfl (by decide) (by omega) u3 x3_1 (⟨t147, t148⟩ : S24) [.int .i64 t147, .int .i64 t148] (fun _ => True) (fun _ => False) rfl rfl ?aP (fun _ hk => hk.elim) ?aF ?aO ?aB ?aS ?aL ?_; (case aP => exact k24_mkM _ _ _ (⟨t147, t148⟩ : S24)); (case aB => exact (by repeat (first | (with_reducible first | exact HB.out | apply below_alloc | apply pw_below_drewN | apply below_drew1 | refine below_set ?_ GE146.out) | exact HB.out))); (case aF => exact (fun _ _ => trivial)); (case aO => exact (by (with_reducible repeat (first | apply Kd.R_alloc | apply Kd.R_drewN | apply Kd.R_drew)); exact HO_3.out)); (case aS => exact (below_size (by repeat (first | (with_reducible first | exact HB.out | apply below_alloc | apply pw_below_drewN | apply below_drew1 | refine below_set ?_ GE146.out) | exact HB.out)))); (case aL => have := LMc6.out; omega); intro v150 w10 ho hb hg hat; rw [← Ny149.out] at ho; have n0_ := Aside0.mk (blk_grown (g := gb146) (o := .cells #[.int .i64 ((rd_T48 l0 x8_1).f0), .int .i64 ((rd_T48 l0 x8_1).f1)] 48 (0, 0)) (by (with_reducible repeat (first | refine blk_drewN ?_ _ | refine blk_drew ?_ | refine blk_alloc ?_ _)); exact BK146.out) hg (Kd.R_ne HO_3.out BK146.out (by decide))); have n1_ := Aside0.mk (hb); have n2_ := Aside0.mk (ho); clear BK146; clear HB; clear HO_3; have BK146 := n0_; have HB := n1_; have HO151 := n2_; clear n0_ n1_ n2_; clear ho hb hg hat))
       go_roundg k1
       case measure => have := HK1.out; omega
       case rel => exact ⟨(y149), (wrap64 (x8_1 + 1)), (by first | rfl | (simp; done) | (simp [*]; done)), H', ⟨by have := HK1.out; omega⟩, ⟨by (with_reducible repeat (first | apply Kd.R_alloc | apply Kd.R_drewN | apply Kd.R_drew)); exact HO151.out⟩, ⟨by repeat (first | (with_reducible first | exact HB.out | apply below_alloc | apply pw_below_drewN | apply below_drew1 | refine below_set ?_ GE146.out) | exact HB.out)⟩⟩
      ·rw [if_neg c6] at H
       exact absurd H (by simp)
     ·rw [if_neg c4] at H
      exact absurd H (by simp)
    ·rw [if_neg c3] at H
     exact absurd H (by simp)
   ·rw [if_neg c2] at H
    have c2b0 : decide (x8_1 < (l0.length : Int)) = false := decide_eq_false c2
    clear c2
    obtain rfl := Option.some.inj H
    go_wp2
    go_ret
    exact ⟨_, by first | rfl | (simp [errW_none, errW_some] <;> rfl) | (simp [*, errW_none, errW_some] <;> rfl), by (with_reducible repeat (first | apply Kd.R_alloc | apply Kd.R_drewN | apply Kd.R_drew)); exact HO_3.out, by repeat (first | (with_reducible first | exact HB.out | apply below_alloc | apply pw_below_drewN | apply below_drew1) | exact HB.out)⟩

end Go.Proofs.Ytmkhkkfliecfdaa.PT

namespace Go.Proofs.Ytmkhkkfliecfdaa.PT
open Go.RowKit Go.Proofs.YtmkhkkfliecfdaaW.PrintWords Go.Proofs.YtmkhkkfliecfdaaW.PrintLast Go.Proofs.Ytmkhkkfliecfdaa.Given Go.Proofs.Ytmkhkkfliecfdaa.Mm
attribute [local go_sem] mx_go mn_go
set_option linter.unusedVariables false
set_option linter.unusedSimpArgs false

attribute [local go_sem high] idx70
/-! ### impl_RangesOf: function 28 -/
def impl_RangesOf.f (k : Nat) (l0 : List (S24)) : Option ((List (S24))) := (impl_inserted.f l0).bind fun t152 => ((impl_tellAll.f k t152).bind fun t155 => (some t155))
theorem impl_RangesOf.mono : ∀ a0 k, LeO (impl_RangesOf.f k a0) (impl_RangesOf.f (k + 1) a0) := by
 intro a0 k
 unfold impl_RangesOf.f
 repeat' first
   | (with_reducible exact impl_tellAll.mono _ _)
   | (with_reducible exact LeO.refl _)
   | (with_reducible exact LeO.none _)
   | (with_reducible refine LeO.ite ?_ ?_)
   | (with_reducible refine LeO.bind ?_ (fun _ => ?_))
   | exact impl_tellAll.mono _ _
   | exact LeO.none _
   | refine LeO.ite ?_ ?_
   | refine LeO.bind ?_ (fun _ => ?_)
set_option maxHeartbeats 8000000 in
set_option maxRecDepth 100000 in
theorem impl_RangesOf.calls (k : Nat) (A0 : Option Addr) (c0 : Nat) (l0 : List (S24)) (r : List (S24)) (w : World) (hr0 : Kd.C k24 w A0 l0.length l0) (hc0 : l0.length ≤ c0) (h : impl_RangesOf.f k l0 = some r) :
  Calls Try.prog 28 #[.slice A0 l0.length c0] w fun e w' => ∃ v0_ : Value, e = .returned (v0_) ∧ Kd.R k24 24 w' w.heap.size (fun _ => True) v0_ r ∧ Below w.heap.size w w' := by
 have HR0 := Aside0.mk hr0
 have HC0 := Aside0.mk hc0
 clear hr0 hc0
 have HB := Aside0.mk (Below.refl w.heap.size w)
 have H : ((impl_inserted.f l0).bind fun t152 => ((impl_tellAll.f k t152).bind fun t155 => (some t155))) = some r := h
 clear h
 replace H := Option.bind_eq_some_iff.mp H
 obtain ⟨t152, A20, H⟩ := H
 replace H : ((impl_tellAll.f k t152).bind fun t155 => (some t155)) = some r := H
 have A2 := Aside0.mk A20
 clear A20
 replace H := Option.bind_eq_some_iff.mp H
 obtain ⟨t155, A30, H⟩ := H
 replace H : (some t155) = some r := H
 have A3 := Aside0.mk A30
 clear A30
 obtain rfl := Option.some.inj H
 go_enter Try.func28, Try.ntmps28
 go_wp2_with (first | ((with_reducible refine gate_dst (N := 4) rfl ?_); refine goesL_ (some 4) rfl rfl Try.func32 (by kernel_rfl) rfl #[.slice A0 l0.length c0] rfl (by (try simp only [List.map_toArray, List.map_cons, List.map_nil]); first | done | rfl | (simp only [List.length_drop, List.length_take]; rfl)) ?_; (with_reducible refine (impl_inserted.calls _ _ l0 t152 _ ?side1 ?side2 A2.out).mono ?_); (case side1 => repeat (first | exact HR0.out | (with_reducible refine Kd.C_alloc ?_ _) | (with_reducible refine Kd.C_drewN ?_ _) | (with_reducible refine Kd.C_drew ?_))); (case side2 => exact HC0.out); rintro e w4 ⟨v153, rfl, ho0, hb⟩; refine ⟨_, rfl, ?_⟩; have n0_ := Aside0.mk (Kd.R_lower ho0 (below_size (by repeat (first | (with_reducible first | exact HB.out | apply below_alloc | apply pw_below_drewN | apply below_drew1) | exact HB.out)))); have n1_ := Aside0.mk (below_step (by repeat (first | (with_reducible first | exact HB.out | apply below_alloc | apply pw_below_drewN | apply below_drew1) | exact HB.out)) hb); clear HB; have HO154 := n0_; have HB := n1_; clear n0_ n1_; (try clear hb); (try clear hb2); (try clear hk); (try clear hi); (try clear ho0); obtain ⟨Ao5, co5, eo5⟩ := Kd.R_slice HO154.out; subst eo5) | ((with_reducible refine gate_dst (N := 5) rfl ?_); refine goesL_ (some 5) rfl rfl Try.func47 (by kernel_rfl) rfl #[.slice Ao5 t152.length co5] rfl (by (try simp only [List.map_toArray, List.map_cons, List.map_nil]); first | done | rfl | (simp only [List.length_drop, List.length_take]; rfl)) ?_; (with_reducible refine (impl_tellAll.calls k _ _ t152 t155 _ ?side1 ?side2 A3.out).mono ?_); (case side1 => repeat (first | exact (Kd.R_reads' HO154.out).2.2 | (with_reducible refine Kd.C_alloc ?_ _) | (with_reducible refine Kd.C_drewN ?_ _) | (with_reducible refine Kd.C_drew ?_))); (case side2 => exact (Kd.R_reads' HO154.out).2.1); rintro e w6 ⟨v156, rfl, ho0, hb⟩; refine ⟨_, rfl, ?_⟩; have n0_ := Aside0.mk (Kd.R_below (by (with_reducible repeat (first | apply Kd.R_alloc | apply Kd.R_drewN | apply Kd.R_drew)); exact HO154.out) hb); have n1_ := Aside0.mk (Kd.R_lower ho0 (below_size (by repeat (first | (with_reducible first | exact HB.out | apply below_alloc | apply pw_below_drewN | apply below_drew1) | exact HB.out)))); have n2_ := Aside0.mk (below_step (by repeat (first | (with_reducible first | exact HB.out | apply below_alloc | apply pw_below_drewN | apply below_drew1) | exact HB.out)) hb); clear HO154; clear HB; have HO154 := n0_; have HO157 := n1_; have HB := n2_; clear n0_ n1_ n2_; (try clear hb); (try clear hb2); (try clear hk); (try clear hi); (try clear ho0)))
 go_ret
 exact ⟨_, by first | rfl | (simp [errW_none, errW_some] <;> rfl) | (simp [*, errW_none, errW_some] <;> rfl), by (with_reducible repeat (first | apply Kd.R_alloc | apply Kd.R_drewN | apply Kd.R_drew)); exact HO157.out, by repeat (first | (with_reducible first | exact HB.out | apply below_alloc | apply pw_below_drewN | apply below_drew1) | exact HB.out)⟩

end Go.Proofs.Ytmkhkkfliecfdaa.PT

namespace Go.Proofs.Ytmkhkkfliecfdaa.PT
open Go.RowKit Go.Proofs.YtmkhkkfliecfdaaW.PrintWords Go.Proofs.YtmkhkkfliecfdaaW.PrintLast Go.Proofs.Ytmkhkkfliecfdaa.Given Go.Proofs.Ytmkhkkfliecfdaa.Mm
attribute [local go_sem] mx_go mn_go
set_option linter.unusedVariables false
set_option linter.unusedSimpArgs false

attribute [local go_sem high] idx70
attribute [local go_sem high] eqA31
/-! ### laws_rangeAwake: function 13 -/
def laws_rangeAwake.f (k : Nat)  : Option (Bool) := (impl_RangesOf.f k (([(⟨5, 5⟩ : S24), (⟨0, 5⟩ : S24)] : List (S24)))).bind fun t161 => ((impl_RangesFindAll.f k (([(⟨0, 2⟩ : S24), (⟨4, 2⟩ : S24)] : List (S24))) 1 4).bind fun t167 => ((spec_RangesSame.f k t161 (([(⟨0, 10⟩ : S24)] : List (S24)))).bind fun t173 => (if t173 = true then (if (t167.length : Int) = 3 then (if 1 < (t167.length : Int) then (some ((((rd_T31 t167 1).f0.f0) == 2 && (((rd_T31 t167 1).f0.f1) == 2)) && (!((rd_T31 t167 1).f1)))) else (none)) else (some false)) else (some false))))
theorem laws_rangeAwake.mono : ∀ k, LeO (laws_rangeAwake.f k ) (laws_rangeAwake.f (k + 1) ) := by
 intro  k
 unfold laws_rangeAwake.f
 repeat' first
   | (with_reducible exact impl_RangesFindAll.mono _ _ _ _)
   | (with_reducible exact impl_RangesOf.mono _ _)
   | (with_reducible exact spec_RangesSame.mono _ _ _)
   | (with_reducible exact LeO.refl _)
   | (with_reducible exact LeO.none _)
   | (with_reducible refine LeO.ite ?_ ?_)
   | (with_reducible refine LeO.bind ?_ (fun _ => ?_))
   | exact impl_RangesFindAll.mono _ _ _ _
   | exact impl_RangesOf.mono _ _
   | exact spec_RangesSame.mono _ _ _
   | exact LeO.none _
   | refine LeO.ite ?_ ?_
   | refine LeO.bind ?_ (fun _ => ?_)
set_option maxHeartbeats 8000000 in
set_option maxRecDepth 100000 in
theorem laws_rangeAwake.calls (k : Nat)  (r : Bool) (w : World) (h : laws_rangeAwake.f k  = some r) :
  Calls Try.prog 13 #[] w fun e w' => e = .returned (.bool r) ∧ Below w.heap.size w w' := by
 have hu24 := Try.underlying24
 have hu31 := Try.underlying31
 have HB := Aside0.mk (Below.refl w.heap.size w)
 have H : ((impl_RangesOf.f k (([(⟨5, 5⟩ : S24), (⟨0, 5⟩ : S24)] : List (S24)))).bind fun t161 => ((impl_RangesFindAll.f k (([(⟨0, 2⟩ : S24), (⟨4, 2⟩ : S24)] : List (S24))) 1 4).bind fun t167 => ((spec_RangesSame.f k t161 (([(⟨0, 10⟩ : S24)] : List (S24)))).bind fun t173 => (if t173 = true then (if (t167.length : Int) = 3 then (if 1 < (t167.length : Int) then (some ((((rd_T31 t167 1).f0.f0) == 2 && (((rd_T31 t167 1).f0.f1) == 2)) && (!((rd_T31 t167 1).f1)))) else (none)) else (some false)) else (some false))))) = some r := h
 clear h
 obtain ⟨y158, hy158⟩ : ∃ y_ : List (S24), y_ = (([(⟨5, 5⟩ : S24), (⟨0, 5⟩ : S24)] : List (S24))) := ⟨_, rfl⟩
 replace H : ((impl_RangesOf.f k y158).bind fun t161 => ((impl_RangesFindAll.f k (([(⟨0, 2⟩ : S24), (⟨4, 2⟩ : S24)] : List (S24))) 1 4).bind fun t167 => ((spec_RangesSame.f k t161 (([(⟨0, 10⟩ : S24)] : List (S24)))).bind fun t173 => (if t173 = true then (if (t167.length : Int) = 3 then (if 1 < (t167.length : Int) then (some ((((rd_T31 t167 1).f0.f0) == 2 && (((rd_T31 t167 1).f0.f1) == 2)) && (!((rd_T31 t167 1).f1)))) else (none)) else (some false)) else (some false))))) = some r := by first | (rw [hy158]; with_reducible exact H) | (have H2_ := (Option.bind_some _ _).symm.trans H; rw [hy158]; with_reducible exact H2_) | (have H2_ := (Option.bind_some _ _).symm.trans H; with_reducible exact H2_) | with_reducible exact H | (rw [hy158]; exact H) | exact H
 have Ny158 := Aside0.mk hy158
 clear hy158
 replace H := Option.bind_eq_some_iff.mp H
 obtain ⟨t161, A10, H⟩ := H
 replace H : ((impl_RangesFindAll.f k (([(⟨0, 2⟩ : S24), (⟨4, 2⟩ : S24)] : List (S24))) 1 4).bind fun t167 => ((spec_RangesSame.f k t161 (([(⟨0, 10⟩ : S24)] : List (S24)))).bind fun t173 => (if t173 = true then (if (t167.length : Int) = 3 then (if 1 < (t167.length : Int) then (some ((((rd_T31 t167 1).f0.f0) == 2 && (((rd_T31 t167 1).f0.f1) == 2)) && (!((rd_T31 t167 1).f1)))) else (none)) else (some false)) else (some false)))) = some r := H
 have A1 := Aside0.mk A10
 clear A10
 obtain ⟨y164, hy164⟩ : ∃ y_ : List (S24), y_ = (([(⟨0, 2⟩ : S24), (⟨4, 2⟩ : S24)] : List (S24))) := ⟨_, rfl⟩
 replace H : ((impl_RangesFindAll.f k y164 1 4).bind fun t167 => ((spec_RangesSame.f k t161 (([(⟨0, 10⟩ : S24)] : List (S24)))).bind fun t173 => (if t173 = true then (if (t167.length : Int) = 3 then (if 1 < (t167.length : Int) then (some ((((rd_T31 t167 1).f0.f0) == 2 && (((rd_T31 t167 1).f0.f1) == 2)) && (!((rd_T31 t167 1).f1)))) else (none)) else (some false)) else (some false)))) = some r := by first | (rw [hy164]; with_reducible exact H) | (have H2_ := (Option.bind_some _ _).symm.trans H; rw [hy164]; with_reducible exact H2_) | (have H2_ := (Option.bind_some _ _).symm.trans H; with_reducible exact H2_) | with_reducible exact H | (rw [hy164]; exact H) | exact H
 have Ny164 := Aside0.mk hy164
 clear hy164
 replace H := Option.bind_eq_some_iff.mp H
 obtain ⟨t167, A20, H⟩ := H
 replace H : ((spec_RangesSame.f k t161 (([(⟨0, 10⟩ : S24)] : List (S24)))).bind fun t173 => (if t173 = true then (if (t167.length : Int) = 3 then (if 1 < (t167.length : Int) then (some ((((rd_T31 t167 1).f0.f0) == 2 && (((rd_T31 t167 1).f0.f1) == 2)) && (!((rd_T31 t167 1).f1)))) else (none)) else (some false)) else (some false))) = some r := H
 have A2 := Aside0.mk A20
 clear A20
 obtain ⟨y170, hy170⟩ : ∃ y_ : List (S24), y_ = (([(⟨0, 10⟩ : S24)] : List (S24))) := ⟨_, rfl⟩
 replace H : ((spec_RangesSame.f k t161 y170).bind fun t173 => (if t173 = true then (if (t167.length : Int) = 3 then (if 1 < (t167.length : Int) then (some ((((rd_T31 t167 1).f0.f0) == 2 && (((rd_T31 t167 1).f0.f1) == 2)) && (!((rd_T31 t167 1).f1)))) else (none)) else (some false)) else (some false))) = some r := by first | (rw [hy170]; with_reducible exact H) | (have H2_ := (Option.bind_some _ _).symm.trans H; rw [hy170]; with_reducible exact H2_) | (have H2_ := (Option.bind_some _ _).symm.trans H; with_reducible exact H2_) | with_reducible exact H | (rw [hy170]; exact H) | exact H
 have Ny170 := Aside0.mk hy170
 clear hy170
 replace H := Option.bind_eq_some_iff.mp H
 obtain ⟨t173, A30, H⟩ := H
 replace H : (if t173 = true then (if (t167.length : Int) = 3 then (if 1 < (t167.length : Int) then (some ((((rd_T31 t167 1).f0.f0) == 2 && (((rd_T31 t167 1).f0.f1) == 2)) && (!((rd_T31 t167 1).f1)))) else (none)) else (some false)) else (some false)) = some r := H
 have A3 := Aside0.mk A30
 clear A30
 by_cases c4 : t173 = true
 ·subst c4
  have H1 : (if (t167.length : Int) = 3 then (if 1 < (t167.length : Int) then (some ((((rd_T31 t167 1).f0.f0) == 2 && (((rd_T31 t167 1).f0.f1) == 2)) && (!((rd_T31 t167 1).f1)))) else (none)) else (some false)) = some r := by rw [if_pos rfl] at H; exact H
  clear H
  have H := H1
  clear H1
  by_cases c5 : (t167.length : Int) = 3
  ·rw [if_pos c5] at H
   have c5b0 : ((t167.length : Int) == 3) = true := beq_iff_eq.mpr c5
   have c5b1 : ((t167.length : Int) != 3) = false := bne_eq_false_iff_eq.mpr c5
   clear c5
   by_cases c6 : 1 < (t167.length : Int)
   ·rw [if_pos c6] at H
    have c6b0 : decide (1 < (t167.length : Int)) = true := decide_eq_true c6
    have c6b1 : decide (1 < t167.length) = true := decide_eq_true (by omega)
    clear c6
    obtain rfl := Option.some.inj H
    go_enter Try.func13, Try.ntmps13
    go_wp2_with (first | ((with_reducible refine gate_dst (N := 5) rfl ?_); (try (refine gate_guard (by rfl) ?_; dsimp only)); refine Kd.R_lit k24 _ 24 ?hg (N := 5) ?hd (xs := ([(⟨5, 5⟩ : S24), (⟨0, 5⟩ : S24)] : List (S24))) (inner := [.int .i64 5, .int .i64 5, .int .i64 0, .int .i64 5]) (ok := fun _ => True) (okp := fun _ => True) ?hr ?hp (fun _ hk => hk) trivial (Below.refl _ _) (Nat.le_refl _) (by simp) ?_; (case hd => rfl); (case hg => rfl); (case hr => first | (go_simp; done) | (go_simp; rfl)); (case hp => exact (Reps.c2 (show Kd.M k24 _ _ _ (⟨5, 5⟩ : S24) [.int .i64 5, .int .i64 5] from (k24_mkM _ _ _ (⟨5, 5⟩ : S24) )) (Reps.c2 (show Kd.M k24 _ _ _ (⟨0, 5⟩ : S24) [.int .i64 0, .int .i64 5] from (k24_mkM _ _ _ (⟨0, 5⟩ : S24) )) (Reps.none _ _)))); intro v159 w7 ho8 hb hg_ hnew_; clear hg_ hnew_; (first | rw [← Ny158.out] at ho8 | (simp only [Int.reduceToNat] at ho8; rw [← Ny158.out] at ho8)); have n0_ := Aside0.mk (Kd.R_lower ho8 (below_size (by repeat (first | (with_reducible first | exact HB.out | apply below_alloc | apply pw_below_drewN | apply below_drew1) | exact HB.out)))); have n1_ := Aside0.mk (below_step (by repeat (first | (with_reducible first | exact HB.out | apply below_alloc | apply pw_below_drewN | apply below_drew1) | exact HB.out)) hb); clear HB; have HO160 := n0_; have HB := n1_; clear n0_ n1_; clear hb ho8; obtain ⟨Ao9, co9, eo9⟩ := Kd.R_slice HO160.out; subst eo9) | ((with_reducible refine gate_dst (N := 6) rfl ?_); refine goesL_ (some 6) rfl rfl Try.func28 (by kernel_rfl) rfl #[.slice Ao9 y158.length co9] rfl (by (try simp only [List.map_toArray, List.map_cons, List.map_nil]); first | done | rfl | (simp only [List.length_drop, List.length_take]; rfl)) ?_; (with_reducible refine (impl_RangesOf.calls k _ _ y158 t161 _ ?side1 ?side2 A1.out).mono ?_); (case side1 => repeat (first | exact (Kd.R_reads' HO160.out).2.2 | (with_reducible refine Kd.C_alloc ?_ _) | (with_reducible refine Kd.C_drewN ?_ _) | (with_reducible refine Kd.C_drew ?_))); (case side2 => exact (Kd.R_reads' HO160.out).2.1); rintro e w10 ⟨v162, rfl, ho0, hb⟩; refine ⟨_, rfl, ?_⟩; have n0_ := Aside0.mk (Kd.R_elder' (by (with_reducible repeat (first | apply Kd.R_alloc | apply Kd.R_drewN | apply Kd.R_drew)); exact HO160.out) (Kd.R_base ho0) hb); have n1_ := Aside0.mk (Kd.R_lower (Kd.R_new' ho0 (Kd.R_lt (by (with_reducible repeat (first | apply Kd.R_alloc | apply Kd.R_drewN | apply Kd.R_drew)); exact HO160.out))) (below_size (by repeat (first | (with_reducible first | exact HB.out | apply below_alloc | apply pw_below_drewN | apply below_drew1) | exact HB.out)))); have n2_ := Aside0.mk (below_step (by repeat (first | (with_reducible first | exact HB.out | apply below_alloc | apply pw_below_drewN | apply below_drew1) | exact HB.out)) hb); clear HO160; clear HB; have HO160 := n0_; have HO163 := n1_; have HB := n2_; clear n0_ n1_ n2_; (try clear hb); (try clear hb2); (try clear hk); (try clear hi); (try clear ho0)) | ((with_reducible refine gate_dst (N := 9) rfl ?_); (try (refine gate_guard (by rfl) ?_; dsimp only)); refine Kd.R_lit k24 _ 24 ?hg (N := 9) ?hd (xs := ([(⟨0, 2⟩ : S24), (⟨4, 2⟩ : S24)] : List (S24))) (inner := [.int .i64 0, .int .i64 2, .int .i64 4, .int .i64 2]) (ok := fun _ => True) (okp := fun _ => True) ?hr ?hp (fun _ hk => hk) trivial (Below.refl _ _) (Nat.le_refl _) (by simp) ?_; (case hd => rfl); (case hg => rfl); (case hr => first | (go_simp; done) | (go_simp; rfl)); (case hp => exact (Reps.c2 (show Kd.M k24 _ _ _ (⟨0, 2⟩ : S24) [.int .i64 0, .int .i64 2] from (k24_mkM _ _ _ (⟨0, 2⟩ : S24) )) (Reps.c2 (show Kd.M k24 _ _ _ (⟨4, 2⟩ : S24) [.int .i64 4, .int .i64 2] from (k24_mkM _ _ _ (⟨4, 2⟩ : S24) )) (Reps.none _ _)))); intro v165 w11 ho12 hb hg_ hnew_; clear hg_ hnew_; (first | rw [← Ny164.out] at ho12 | (simp only [Int.reduceToNat] at ho12; rw [← Ny164.out] at ho12)); have n0_ := Aside0.mk (Kd.R_elder' (by (with_reducible repeat (first | apply Kd.R_alloc | apply Kd.R_drewN | apply Kd.R_drew)); exact HO160.out) (Kd.R_base ho12) hb); have n1_ := Aside0.mk (Kd.R_elder' (by (with_reducible repeat (first | apply Kd.R_alloc | apply Kd.R_drewN | apply Kd.R_drew)); exact HO163.out) (Kd.R_base ho12) hb); have n2_ := Aside0.mk (Kd.R_lower (Kd.R_new' (Kd.R_new' ho12 (Kd.R_lt (by (with_reducible repeat (first | apply Kd.R_alloc | apply Kd.R_drewN | apply Kd.R_drew)); exact HO160.out))) (Kd.R_lt (by (with_reducible repeat (first | apply Kd.R_alloc | apply Kd.R_drewN | apply Kd.R_drew)); exact HO163.out))) (below_size (by repeat (first | (with_reducible first | exact HB.out | apply below_alloc | apply pw_below_drewN | apply below_drew1) | exact HB.out)))); have n3_ := Aside0.mk (below_step (by repeat (first | (with_reducible first | exact HB.out | apply below_alloc | apply pw_below_drewN | apply below_drew1) | exact HB.out)) hb); clear HO160; clear HO163; clear HB; have HO160 := n0_; have HO163 := n1_; have HO166 := n2_; have HB := n3_; clear n0_ n1_ n2_ n3_; clear hb ho12; obtain ⟨Ao13, co13, eo13⟩ := Kd.R_slice HO166.out; subst eo13) | ((with_reducible refine gate_dst (N := 11) rfl ?_); refine goesL_ (some 11) rfl rfl Try.func17 (by kernel_rfl) rfl #[.slice Ao13 y164.length co13, .agg #[.int .i64 1, .int .i64 4]] rfl (by (try simp only [List.map_toArray, List.map_cons, List.map_nil]); first | done | rfl | (simp only [List.length_drop, List.length_take]; rfl)) ?_; (with_reducible refine (impl_RangesFindAll.calls k _ _ y164 1 4 t167 _ ?side1 ?side2 A2.out).mono ?_); (case side1 => repeat (first | exact (Kd.R_reads' HO166.out).2.2 | (with_reducible refine Kd.C_alloc ?_ _) | (with_reducible refine Kd.C_drewN ?_ _) | (with_reducible refine Kd.C_drew ?_))); (case side2 => exact (Kd.R_reads' HO166.out).2.1); rintro e w14 ⟨v168, rfl, ho0, hb⟩; refine ⟨_, rfl, ?_⟩; have n0_ := Aside0.mk (Kd.R_below (by (with_reducible repeat (first | apply Kd.R_alloc | apply Kd.R_drewN | apply Kd.R_drew)); exact HO160.out) hb); have n1_ := Aside0.mk (Kd.R_below (by (with_reducible repeat (first | apply Kd.R_alloc | apply Kd.R_drewN | apply Kd.R_drew)); exact HO163.out) hb); have n2_ := Aside0.mk (Kd.R_below (by (with_reducible repeat (first | apply Kd.R_alloc | apply Kd.R_drewN | apply Kd.R_drew)); exact HO166.out) hb); have n3_ := Aside0.mk (Kd.R_lower ho0 (below_size (by repeat (first | (with_reducible first | exact HB.out | apply below_alloc | apply pw_below_drewN | apply below_drew1) | exact HB.out)))); have n4_ := Aside0.mk (below_step (by repeat (first | (with_reducible first | exact HB.out | apply below_alloc | apply pw_below_drewN | apply below_drew1) | exact HB.out)) hb); clear HO160; clear HO163; clear HO166; clear HB; have HO160 := n0_; have HO163 := n1_; have HO166 := n2_; have HO169 := n3_; have HB := n4_; clear n0_ n1_ n2_ n3_ n4_; (try clear hb); (try clear hb2); (try clear hk); (try clear hi); (try clear ho0)) | ((with_reducible refine gate_dst (N := 14) rfl ?_); (try (refine gate_guard (by rfl) ?_; dsimp only)); refine Kd.R_lit k24 _ 24 ?hg (N := 14) ?hd (xs := ([(⟨0, 10⟩ : S24)] : List (S24))) (inner := [.int .i64 0, .int .i64 10]) (ok := fun _ => True) (okp := fun _ => True) ?hr ?hp (fun _ hk => hk) trivial (Below.refl _ _) (Nat.le_refl _) (by simp) ?_; (case hd => rfl); (case hg => rfl); (case hr => first | (go_simp; done) | (go_simp; rfl)); (case hp => exact (Reps.c2 (show Kd.M k24 _ _ _ (⟨0, 10⟩ : S24) [.int .i64 0, .int .i64 10] from (k24_mkM _ _ _ (⟨0, 10⟩ : S24) )) (Reps.none _ _))); intro v171 w15 ho16 hb hg_ hnew_; clear hg_ hnew_; (first | rw [← Ny170.out] at ho16 | (simp only [Int.reduceToNat] at ho16; rw [← Ny170.out] at ho16)); have n0_ := Aside0.mk (Kd.R_elder' (by (with_reducible repeat (first | apply Kd.R_alloc | apply Kd.R_drewN | apply Kd.R_drew)); exact HO160.out) (Kd.R_base ho16) hb); have n1_ := Aside0.mk (Kd.R_elder' (by (with_reducible repeat (first | apply Kd.R_alloc | apply Kd.R_drewN | apply Kd.R_drew)); exact HO163.out) (Kd.R_base ho16) hb); have n2_ := Aside0.mk (Kd.R_elder' (by (with_reducible repeat (first | apply Kd.R_alloc | apply Kd.R_drewN | apply Kd.R_drew)); exact HO166.out) (Kd.R_base ho16) hb); have n3_ := Aside0.mk (Kd.R_below (by (with_reducible repeat (first | apply Kd.R_alloc | apply Kd.R_drewN | apply Kd.R_drew)); exact HO169.out) hb); have n4_ := Aside0.mk (Kd.R_lower (Kd.R_new' (Kd.R_new' (Kd.R_new' ho16 (Kd.R_lt (by (with_reducible repeat (first | apply Kd.R_alloc | apply Kd.R_drewN | apply Kd.R_drew)); exact HO160.out))) (Kd.R_lt (by (with_reducible repeat (first | apply Kd.R_alloc | apply Kd.R_drewN | apply Kd.R_drew)); exact HO163.out))) (Kd.R_lt (by (with_reducible repeat (first | apply Kd.R_alloc | apply Kd.R_drewN | apply Kd.R_drew)); exact HO166.out))) (below_size (by repeat (first | (with_reducible first | exact HB.out | apply below_alloc | apply pw_below_drewN | apply below_drew1) | exact HB.out)))); have n5_ := Aside0.mk (below_step (by repeat (first | (with_reducible first | exact HB.out | apply below_alloc | apply pw_below_drewN | apply below_drew1) | exact HB.out)) hb); clear HO160; clear HO163; clear HO166; clear HO169; clear HB; have HO160 := n0_; have HO163 := n1_; have HO166 := n2_; have HO169 := n3_; have HO172 := n4_; have HB := n5_; clear n0_ n1_ n2_ n3_ n4_ n5_; clear hb ho16; obtain ⟨Ao17, co17, eo17⟩ := Kd.R_slice HO163.out; subst eo17; obtain ⟨Ao18, co18, eo18⟩ := Kd.R_slice HO172.out; subst eo18) | ((with_reducible refine gate_dst (N := 15) rfl ?_); refine goesL_ (some 15) rfl rfl Try.func25 (by kernel_rfl) rfl #[.slice Ao17 t161.length co17, .slice Ao18 y170.length co18] rfl (by (try simp only [List.map_toArray, List.map_cons, List.map_nil]); first | done | rfl | (simp only [List.length_drop, List.length_take]; rfl)) ?_; (with_reducible refine (spec_RangesSame.calls k _ _ t161 _ _ y170 true _ ?side1 ?side2 ?side3 ?side4 A3.out).mono ?_); (case side1 => repeat (first | exact (Kd.R_reads' HO163.out).2.2 | (with_reducible refine Kd.C_alloc ?_ _) | (with_reducible refine Kd.C_drewN ?_ _) | (with_reducible refine Kd.C_drew ?_))); (case side2 => exact (Kd.R_reads' HO163.out).2.1); (case side3 => repeat (first | exact (Kd.R_reads' HO172.out).2.2 | (with_reducible refine Kd.C_alloc ?_ _) | (with_reducible refine Kd.C_drewN ?_ _) | (with_reducible refine Kd.C_drew ?_))); (case side4 => exact (Kd.R_reads' HO172.out).2.1); rintro e w' ⟨rfl, ⟨nd, rfl⟩⟩; refine ⟨_, rfl, ?_⟩; obtain ⟨Ao19, co19, eo19⟩ := Kd.R_slice HO169.out; subst eo19; have p174 : 0 ≤ (1 : Int) := (by omega); have q174 : 1 < (t167.length : Int) := of_decide_eq_true (by first | (with_reducible assumption) | assumption); obtain ⟨ad174, e174, hx174_0, hx174_1, hx174_2⟩ := at_T31 (Kd.R_reads' HO169.out).2.2 1 p174 q174; cases e174; (try simp only [show (1 : Int).toNat = 1 from rfl, Nat.reduceMul, Nat.reduceEqDiff, Go.Addr.add, ↓reduceIte] at hx174_0); (try simp only [show (1 : Int).toNat = 1 from rfl, Nat.reduceMul, Nat.reduceEqDiff, Go.Addr.add, ↓reduceIte] at hx174_1); (try simp only [show (1 : Int).toNat = 1 from rfl, Nat.reduceMul, Nat.reduceEqDiff, Go.Addr.add, ↓reduceIte] at hx174_2); have qi174 : (1 < t167.length) = True := eq_true (by omega); (try rw [show ((1 : Int)).toNat = 1 from rfl] at hx174_0); (try rw [show 1 * 3 = 3 from rfl] at hx174_0); (try rw [show ((1 : Int)).toNat = 1 from rfl] at hx174_1); (try rw [show 1 * 3 = 3 from rfl] at hx174_1); (try rw [show ((1 : Int)).toNat = 1 from rfl] at hx174_2); (try rw [show 1 * 3 = 3 from rfl] at hx174_2); replace p174 := eq_true p174; replace q174 := eq_true q174))
    go_ret
    exact ⟨by first | rfl | (simp [errW_none, errW_some] <;> rfl) | (simp [*, errW_none, errW_some] <;> rfl), by repeat (first | (with_reducible first | exact HB.out | apply below_alloc | apply pw_below_drewN | apply below_drew1) | exact HB.out)⟩
   ·rw [if_neg c6] at H
    exact absurd H (by simp)
  ·rw [if_neg c5] at H
   have c5b0 : ((t167.length : Int) == 3) = false := beq_eq_false_iff_ne.mpr c5
   have c5b1 : ((t167.length : Int) != 3) = true := bne_iff_ne.mpr c5
   obtain rfl := Option.some.inj H
   go_enter Try.func13, Try.ntmps13
   go_wp2_with (first | ((with_reducible refine gate_dst (N := 5) rfl ?_); (try (refine gate_guard (by rfl) ?_; dsimp only)); refine Kd.R_lit k24 _ 24 ?hg (N := 5) ?hd (xs := ([(⟨5, 5⟩ : S24), (⟨0, 5⟩ : S24)] : List (S24))) (inner := [.int .i64 5, .int .i64 5, .int .i64 0, .int .i64 5]) (ok := fun _ => True) (okp := fun _ => True) ?hr ?hp (fun _ hk => hk) trivial (Below.refl _ _) (Nat.le_refl _) (by simp) ?_; (case hd => rfl); (case hg => rfl); (case hr => first | (go_simp; done) | (go_simp; rfl)); (case hp => exact (Reps.c2 (show Kd.M k24 _ _ _ (⟨5, 5⟩ : S24) [.int .i64 5, .int .i64 5] from (k24_mkM _ _ _ (⟨5, 5⟩ : S24) )) (Reps.c2 (show Kd.M k24 _ _ _ (⟨0, 5⟩ : S24) [.int .i64 0, .int .i64 5] from (k24_mkM _ _ _ (⟨0, 5⟩ : S24) )) (Reps.none _ _)))); intro v159 w20 ho21 hb hg_ hnew_; clear hg_ hnew_; (first | rw [← Ny158.out] at ho21 | (simp only [Int.reduceToNat] at ho21; rw [← Ny158.out] at ho21)); have n0_ := Aside0.mk (Kd.R_lower ho21 (below_size (by repeat (first | (with_reducible first | exact HB.out | apply below_alloc | apply pw_below_drewN | apply below_drew1) | exact HB.out)))); have n1_ := Aside0.mk (below_step (by repeat (first | (with_reducible first | exact HB.out | apply below_alloc | apply pw_below_drewN | apply below_drew1) | exact HB.out)) hb); clear HB; have HO160 := n0_; have HB := n1_; clear n0_ n1_; clear hb ho21; obtain ⟨Ao22, co22, eo22⟩ := Kd.R_slice HO160.out; subst eo22) | ((with_reducible refine gate_dst (N := 6) rfl ?_); refine goesL_ (some 6) rfl rfl Try.func28 (by kernel_rfl) rfl #[.slice Ao22 y158.length co22] rfl (by (try simp only [List.map_toArray, List.map_cons, List.map_nil]); first | done | rfl | (simp only [List.length_drop, List.length_take]; rfl)) ?_; (with_reducible refine (impl_RangesOf.calls k _ _ y158 t161 _ ?side1 ?side2 A1.out).mono ?_); (case side1 => repeat (first | exact (Kd.R_reads' HO160.out).2.2 | (with_reducible refine Kd.C_alloc ?_ _) | (with_reducible refine Kd.C_drewN ?_ _) | (with_reducible refine Kd.C_drew ?_))); (case side2 => exact (Kd.R_reads' HO160.out).2.1); rintro e w23 ⟨v162, rfl, ho0, hb⟩; refine ⟨_, rfl, ?_⟩; have n0_ := Aside0.mk (Kd.R_elder' (by (with_reducible repeat (first | apply Kd.R_alloc | apply Kd.R_drewN | apply Kd.R_drew)); exact HO160.out) (Kd.R_base ho0) hb); have n1_ := Aside0.mk (Kd.R_lower (Kd.R_new' ho0 (Kd.R_lt (by (with_reducible repeat (first | apply Kd.R_alloc | apply Kd.R_drewN | apply Kd.R_drew)); exact HO160.out))) (below_size (by repeat (first | (with_reducible first | exact HB.out | apply below_alloc | apply pw_below_drewN | apply below_drew1) | exact HB.out)))); have n2_ := Aside0.mk (below_step (by repeat (first | (with_reducible first | exact HB.out | apply below_alloc | apply pw_below_drewN | apply below_drew1) | exact HB.out)) hb); clear HO160; clear HB; have HO160 := n0_; have HO163 := n1_; have HB := n2_; clear n0_ n1_ n2_; (try clear hb); (try clear hb2); (try clear hk); (try clear hi); (try clear ho0)) | ((with_reducible refine gate_dst (N := 9) rfl ?_); (try (refine gate_guard (by rfl) ?_; dsimp only)); refine Kd.R_lit k24 _ 24 ?hg (N := 9) ?hd (xs := ([(⟨0, 2⟩ : S24), (⟨4, 2⟩ : S24)] : List (S24))) (inner := [.int .i64 0, .int .i64 2, .int .i64 4, .int .i64 2]) (ok := fun _ => True) (okp := fun _ => True) ?hr ?hp (fun _ hk => hk) trivial (Below.refl _ _) (Nat.le_refl _) (by simp) ?_; (case hd => rfl); (case hg => rfl); (case hr => first | (go_simp; done) | (go_simp; rfl)); (case hp => exact (Reps.c2 (show Kd.M k24 _ _ _ (⟨0, 2⟩ : S24) [.int .i64 0, .int .i64 2] from (k24_mkM _ _ _ (⟨0, 2⟩ : S24) )) (Reps.c2 (show Kd.M k24 _ _ _ (⟨4, 2⟩ : S24) [.int .i64 4, .int .i64 2] from (k24_mkM _ _ _ (⟨4, 2⟩ : S24) )) (Reps.none _ _)))); intro v165 w24 ho25 hb hg_ hnew_; clear hg_ hnew_; (first | rw [← Ny164.out] at ho25 | (simp only [Int.reduceToNat] at ho25; rw [← Ny164.out] at ho25)); have n0_ := Aside0.mk (Kd.R_elder' (by (with_reducible repeat (first | apply Kd.R_alloc | apply Kd.R_drewN | apply Kd.R_drew)); exact HO160.out) (Kd.R_base ho25) hb); have n1_ := Aside0.mk (Kd.R_elder' (by (with_reducible repeat (first | apply Kd.R_alloc | apply Kd.R_drewN | apply Kd.R_drew)); exact HO163.out) (Kd.R_base ho25) hb); have n2_ := Aside0.mk (Kd.R_lower (Kd.R_new' (Kd.R_new' ho25 (Kd.R_lt (by (with_reducible repeat (first | apply Kd.R_alloc | apply Kd.R_drewN | apply Kd.R_drew)); exact HO160.out))) (Kd.R_lt (by (with_reducible repeat (first | apply Kd.R_alloc | apply Kd.R_drewN | apply Kd.R_drew)); exact HO163.out))) (below_size (by repeat (first | (with_reducible first | exact HB.out | apply below_alloc | apply pw_below_drewN | apply below_drew1) | exact HB.out)))); have n3_ := Aside0.mk (below_step (by repeat (first | (with_reducible first | exact HB.out | apply below_alloc | apply pw_below_drewN | apply below_drew1) | exact HB.out)) hb); clear HO160; clear HO163; clear HB; have HO160 := n0_; have HO163 := n1_; have HO166 := n2_; have HB := n3_; clear n0_ n1_ n2_ n3_; clear hb ho25; obtain ⟨Ao26, co26, eo26⟩ := Kd.R_slice HO166.out; subst eo26) | ((with_reducible refine gate_dst (N := 11) rfl ?_); refine goesL_ (some 11) rfl rfl Try.func17 (by kernel_rfl) rfl #[.slice Ao26 y164.length co26, .agg #[.int .i64 1, .int .i64 4]] rfl (by (try simp only [List.map_toArray, List.map_cons, List.map_nil]); first | done | rfl | (simp only [List.length_drop, List.length_take]; rfl)) ?_; (with_reducible refine (impl_RangesFindAll.calls k _ _ y164 1 4 t167 _ ?side1 ?side2 A2.out).mono ?_); (case side1 => repeat (first | exact (Kd.R_reads' HO166.out).2.2 | (with_reducible refine Kd.C_alloc ?_ _) | (with_reducible refine Kd.C_drewN ?_ _) | (with_reducible refine Kd.C_drew ?_))); (case side2 => exact (Kd.R_reads' HO166.out).2.1); rintro e w27 ⟨v168, rfl, ho0, hb⟩; refine ⟨_, rfl, ?_⟩; have n0_ := Aside0.mk (Kd.R_below (by (with_reducible repeat (first | apply Kd.R_alloc | apply Kd.R_drewN | apply Kd.R_drew)); exact HO160.out) hb); have n1_ := Aside0.mk (Kd.R_below (by (with_reducible repeat (first | apply Kd.R_alloc | apply Kd.R_drewN | apply Kd.R_drew)); exact HO163.out) hb); have n2_ := Aside0.mk (Kd.R_below (by (with_reducible repeat (first | apply Kd.R_alloc | apply Kd.R_drewN | apply Kd.R_drew)); exact HO166.out) hb); have n3_ := Aside0.mk (Kd.R_lower ho0 (below_size (by repeat (first | (with_reducible first | exact HB.out | apply below_alloc | apply pw_below_drewN | apply below_drew1) | exact HB.out)))); have n4_ := Aside0.mk (below_step (by repeat (first | (with_reducible first | exact HB.out | apply below_alloc | apply pw_below_drewN | apply below_drew1) | exact HB.out)) hb); clear HO160; clear HO163; clear HO166; clear HB; have HO160 := n0_; have HO163 := n1_; have HO166 := n2_; have HO169 := n3_; have HB := n4_; clear n0_ n1_ n2_ n3_ n4_; (try clear hb); (try clear hb2); (try clear hk); (try clear hi); (try clear ho0)) | ((with_reducible refine gate_dst (N := 14) rfl ?_); (try (refine gate_guard (by rfl) ?_; dsimp only)); refine Kd.R_lit k24 _ 24 ?hg (N := 14) ?hd (xs := ([(⟨0, 10⟩ : S24)] : List (S24))) (inner := [.int .i64 0, .int .i64 10]) (ok := fun _ => True) (okp := fun _ => True) ?hr ?hp (fun _ hk => hk) trivial (Below.refl _ _) (Nat.le_refl _) (by simp) ?_; (case hd => rfl); (case hg => rfl); (case hr => first | (go_simp; done) | (go_simp; rfl)); (case hp => exact (Reps.c2 (show Kd.M k24 _ _ _ (⟨0, 10⟩ : S24) [.int .i64 0, .int .i64 10] from (k24_mkM _ _ _ (⟨0, 10⟩ : S24) )) (Reps.none _ _))); intro v171 w28 ho29 hb hg_ hnew_; clear hg_ hnew_; (first | rw [← Ny170.out] at ho29 | (simp only [Int.reduceToNat] at ho29; rw [← Ny170.out] at ho29)); have n0_ := Aside0.mk (Kd.R_elder' (by (with_reducible repeat (first | apply Kd.R_alloc | apply Kd.R_drewN | apply Kd.R_drew)); exact HO160.out) (Kd.R_base ho29) hb); have n1_ := Aside0.mk (Kd.R_elder' (by (with_reducible repeat (first | apply Kd.R_alloc | apply Kd.R_drewN | apply Kd.R_drew)); exact HO163.out) (Kd.R_base ho29) hb); have n2_ := Aside0.mk (Kd.R_elder' (by (with_reducible repeat (first | apply Kd.R_alloc | apply Kd.R_drewN | apply Kd.R_drew)); exact HO166.out) (Kd.R_base ho29) hb); have n3_ := Aside0.mk (Kd.R_below (by (with_reducible repeat (first | apply Kd.R_alloc | apply Kd.R_drewN | apply Kd.R_drew)); exact HO169.out) hb); have n4_ := Aside0.mk (Kd.R_lower (Kd.R_new' (Kd.R_new' (Kd.R_new' ho29 (Kd.R_lt (by (with_reducible repeat (first | apply Kd.R_alloc | apply Kd.R_drewN | apply Kd.R_drew)); exact HO160.out))) (Kd.R_lt (by (with_reducible repeat (first | apply Kd.R_alloc | apply Kd.R_drewN | apply Kd.R_drew)); exact HO163.out))) (Kd.R_lt (by (with_reducible repeat (first | apply Kd.R_alloc | apply Kd.R_drewN | apply Kd.R_drew)); exact HO166.out))) (below_size (by repeat (first | (with_reducible first | exact HB.out | apply below_alloc | apply pw_below_drewN | apply below_drew1) | exact HB.out)))); have n5_ := Aside0.mk (below_step (by repeat (first | (with_reducible first | exact HB.out | apply below_alloc | apply pw_below_drewN | apply below_drew1) | exact HB.out)) hb); clear HO160; clear HO163; clear HO166; clear HO169; clear HB; have HO160 := n0_; have HO163 := n1_; have HO166 := n2_; have HO169 := n3_; have HO172 := n4_; have HB := n5_; clear n0_ n1_ n2_ n3_ n4_ n5_; clear hb ho29; obtain ⟨Ao30, co30, eo30⟩ := Kd.R_slice HO163.out; subst eo30; obtain ⟨Ao31, co31, eo31⟩ := Kd.R_slice HO172.out; subst eo31) | ((with_reducible refine gate_dst (N := 15) rfl ?_); refine goesL_ (some 15) rfl rfl Try.func25 (by kernel_rfl) rfl #[.slice Ao30 t161.length co30, .slice Ao31 y170.length co31] rfl (by (try simp only [List.map_toArray, List.map_cons, List.map_nil]); first | done | rfl | (simp only [List.length_drop, List.length_take]; rfl)) ?_; (with_reducible refine (spec_RangesSame.calls k _ _ t161 _ _ y170 true _ ?side1 ?side2 ?side3 ?side4 A3.out).mono ?_); (case side1 => repeat (first | exact (Kd.R_reads' HO163.out).2.2 | (with_reducible refine Kd.C_alloc ?_ _) | (with_reducible refine Kd.C_drewN ?_ _) | (with_reducible refine Kd.C_drew ?_))); (case side2 => exact (Kd.R_reads' HO163.out).2.1); (case side3 => repeat (first | exact (Kd.R_reads' HO172.out).2.2 | (with_reducible refine Kd.C_alloc ?_ _) | (with_reducible refine Kd.C_drewN ?_ _) | (with_reducible refine Kd.C_drew ?_))); (case side4 => exact (Kd.R_reads' HO172.out).2.1); rintro e w' ⟨rfl, ⟨nd, rfl⟩⟩; refine ⟨_, rfl, ?_⟩; obtain ⟨Ao32, co32, eo32⟩ := Kd.R_slice HO169.out; subst eo32))
   go_ret
   exact ⟨by first | rfl | (simp [errW_none, errW_some] <;> rfl) | (simp [*, errW_none, errW_some] <;> rfl), by repeat (first | (with_reducible first | exact HB.out | apply below_alloc | apply pw_below_drewN | apply below_drew1) | exact HB.out)⟩
 ·replace c4 := Bool.eq_false_iff.mpr c4
  subst c4
  have H1 : (some false) = some r := by rw [if_neg (show ¬ (false = true) by decide)] at H; exact H
  clear H
  have H := H1
  clear H1
  obtain rfl := Option.some.inj H
  go_enter Try.func13, Try.ntmps13
  go_wp2_with (first | ((with_reducible refine gate_dst (N := 5) rfl ?_); (try (refine gate_guard (by rfl) ?_; dsimp only)); refine Kd.R_lit k24 _ 24 ?hg (N := 5) ?hd (xs := ([(⟨5, 5⟩ : S24), (⟨0, 5⟩ : S24)] : List (S24))) (inner := [.int .i64 5, .int .i64 5, .int .i64 0, .int .i64 5]) (ok := fun _ => True) (okp := fun _ => True) ?hr ?hp (fun _ hk => hk) trivial (Below.refl _ _) (Nat.le_refl _) (by simp) ?_; (case hd => rfl); (case hg => rfl); (case hr => first | (go_simp; done) | (go_simp; rfl)); (case hp => exact (Reps.c2 (show Kd.M k24 _ _ _ (⟨5, 5⟩ : S24) [.int .i64 5, .int .i64 5] from (k24_mkM _ _ _ (⟨5, 5⟩ : S24) )) (Reps.c2 (show Kd.M k24 _ _ _ (⟨0, 5⟩ : S24) [.int .i64 0, .int .i64 5] from (k24_mkM _ _ _ (⟨0, 5⟩ : S24) )) (Reps.none _ _)))); intro v159 w33 ho34 hb hg_ hnew_; clear hg_ hnew_; (first | rw [← Ny158.out] at ho34 | (simp only [Int.reduceToNat] at ho34; rw [← Ny158.out] at ho34)); have n0_ := Aside0.mk (Kd.R_lower ho34 (below_size (by repeat (first | (with_reducible first | exact HB.out | apply below_alloc | apply pw_below_drewN | apply below_drew1) | exact HB.out)))); have n1_ := Aside0.mk (below_step (by repeat (first | (with_reducible first | exact HB.out | apply below_alloc | apply pw_below_drewN | apply below_drew1) | exact HB.out)) hb); clear HB; have HO160 := n0_; have HB := n1_; clear n0_ n1_; clear hb ho34; obtain ⟨Ao35, co35, eo35⟩ := Kd.R_slice HO160.out; subst eo35) | ((with_reducible refine gate_dst (N := 6) rfl ?_); refine goesL_ (some 6) rfl rfl Try.func28 (by kernel_rfl) rfl #[.slice Ao35 y158.length co35] rfl (by (try simp only [List.map_toArray, List.map_cons, List.map_nil]); first | done | rfl | (simp only [List.length_drop, List.length_take]; rfl)) ?_; (with_reducible refine (impl_RangesOf.calls k _ _ y158 t161 _ ?side1 ?side2 A1.out).mono ?_); (case side1 => repeat (first | exact (Kd.R_reads' HO160.out).2.2 | (with_reducible refine Kd.C_alloc ?_ _) | (with_reducible refine Kd.C_drewN ?_ _) | (with_reducible refine Kd.C_drew ?_))); (case side2 => exact (Kd.R_reads' HO160.out).2.1); rintro e w36 ⟨v162, rfl, ho0, hb⟩; refine ⟨_, rfl, ?_⟩; have n0_ := Aside0.mk (Kd.R_elder' (by (with_reducible repeat (first | apply Kd.R_alloc | apply Kd.R_drewN | apply Kd.R_drew)); exact HO160.out) (Kd.R_base ho0) hb); have n1_ := Aside0.mk (Kd.R_lower (Kd.R_new' ho0 (Kd.R_lt (by (with_reducible repeat (first | apply Kd.R_alloc | apply Kd.R_drewN | apply Kd.R_drew)); exact HO160.out))) (below_size (by repeat (first | (with_reducible first | exact HB.out | apply below_alloc | apply pw_below_drewN | apply below_drew1) | exact HB.out)))); have n2_ := Aside0.mk (below_step (by repeat (first | (with_reducible first | exact HB.out | apply below_alloc | apply pw_below_drewN | apply below_drew1) | exact HB.out)) hb); clear HO160; clear HB; have HO160 := n0_; have HO163 := n1_; have HB := n2_; clear n0_ n1_ n2_; (try clear hb); (try clear hb2); (try clear hk); (try clear hi); (try clear ho0)) | ((with_reducible refine gate_dst (N := 9) rfl ?_); (try (refine gate_guard (by rfl) ?_; dsimp only)); refine Kd.R_lit k24 _ 24 ?hg (N := 9) ?hd (xs := ([(⟨0, 2⟩ : S24), (⟨4, 2⟩ : S24)] : List (S24))) (inner := [.int .i64 0, .int .i64 2, .int .i64 4, .int .i64 2]) (ok := fun _ => True) (okp := fun _ => True) ?hr ?hp (fun _ hk => hk) trivial (Below.refl _ _) (Nat.le_refl _) (by simp) ?_; (case hd => rfl); (case hg => rfl); (case hr => first | (go_simp; done) | (go_simp; rfl)); (case hp => exact (Reps.c2 (show Kd.M k24 _ _ _ (⟨0, 2⟩ : S24) [.int .i64 0, .int .i64 2] from (k24_mkM _ _ _ (⟨0, 2⟩ : S24) )) (Reps.c2 (show Kd.M k24 _ _ _ (⟨4, 2⟩ : S24) [.int .i64 4, .int .i64 2] from (k24_mkM _ _ _ (⟨4, 2⟩ : S24) )) (Reps.none _ _)))); intro v165 w37 ho38 hb hg_ hnew_; clear hg_ hnew_; (first | rw [← Ny164.out] at ho38 | (simp only [Int.reduceToNat] at ho38; rw [← Ny164.out] at ho38)); have n0_ := Aside0.mk (Kd.R_elder' (by (with_reducible repeat (first | apply Kd.R_alloc | apply Kd.R_drewN | apply Kd.R_drew)); exact HO160.out) (Kd.R_base ho38) hb); have n1_ := Aside0.mk (Kd.R_elder' (by (with_reducible repeat (first | apply Kd.R_alloc | apply Kd.R_drewN | apply Kd.R_drew)); exact HO163.out) (Kd.R_base ho38) hb); have n2_ := Aside0.mk (Kd.R_lower (Kd.R_new' (Kd.R_new' ho38 (Kd.R_lt (by (with_reducible repeat (first | apply Kd.R_alloc | apply Kd.R_drewN | apply Kd.R_drew)); exact HO160.out))) (Kd.R_lt (by (with_reducible repeat (first | apply Kd.R_alloc | apply Kd.R_drewN | apply Kd.R_drew)); exact HO163.out))) (below_size (by repeat (first | (with_reducible first | exact HB.out | apply below_alloc | apply pw_below_drewN | apply below_drew1) | exact HB.out)))); have n3_ := Aside0.mk (below_step (by repeat (first | (with_reducible first | exact HB.out | apply below_alloc | apply pw_below_drewN | apply below_drew1) | exact HB.out)) hb); clear HO160; clear HO163; clear HB; have HO160 := n0_; have HO163 := n1_; have HO166 := n2_; have HB := n3_; clear n0_ n1_ n2_ n3_; clear hb ho38; obtain ⟨Ao39, co39, eo39⟩ := Kd.R_slice HO166.out; subst eo39) | ((with_reducible refine gate_dst (N := 11) rfl ?_); refine goesL_ (some 11) rfl rfl Try.func17 (by kernel_rfl) rfl #[.slice Ao39 y164.length co39, .agg #[.int .i64 1, .int .i64 4]] rfl (by (try simp only [List.map_toArray, List.map_cons, List.map_nil]); first | done | rfl | (simp only [List.length_drop, List.length_take]; rfl)) ?_; (with_reducible refine (impl_RangesFindAll.calls k _ _ y164 1 4 t167 _ ?side1 ?side2 A2.out).mono ?_); (case side1 => repeat (first | exact (Kd.R_reads' HO166.out).2.2 | (with_reducible refine Kd.C_alloc ?_ _) | (with_reducible refine Kd.C_drewN ?_ _) | (with_reducible refine Kd.C_drew ?_))); (case side2 => exact (Kd.R_reads' HO166.out).2.1); rintro e w40 ⟨v168, rfl, ho0, hb⟩; refine ⟨_, rfl, ?_⟩; have n0_ := Aside0.mk (Kd.R_below (by (with_reducible repeat (first | apply Kd.R_alloc | apply Kd.R_drewN | apply Kd.R_drew)); exact HO160.out) hb); have n1_ := Aside0.mk (Kd.R_below (by (with_reducible repeat (first | apply Kd.R_alloc | apply Kd.R_drewN | apply Kd.R_drew)); exact HO163.out) hb); have n2_ := Aside0.mk (Kd.R_below (by (with_reducible repeat (first | apply Kd.R_alloc | apply Kd.R_drewN | apply Kd.R_drew)); exact HO166.out) hb); have n3_ := Aside0.mk (Kd.R_lower ho0 (below_size (by repeat (first | (with_reducible first | exact HB.out | apply below_alloc | apply pw_below_drewN | apply below_drew1) | exact HB.out)))); have n4_ := Aside0.mk (below_step (by repeat (first | (with_reducible first | exact HB.out | apply below_alloc | apply pw_below_drewN | apply below_drew1) | exact HB.out)) hb); clear HO160; clear HO163; clear HO166; clear HB; have HO160 := n0_; have HO163 := n1_; have HO166 := n2_; have HO169 := n3_; have HB := n4_; clear n0_ n1_ n2_ n3_ n4_; (try clear hb); (try clear hb2); (try clear hk); (try clear hi); (try clear ho0)) | ((with_reducible refine gate_dst (N := 14) rfl ?_); (try (refine gate_guard (by rfl) ?_; dsimp only)); refine Kd.R_lit k24 _ 24 ?hg (N := 14) ?hd (xs := ([(⟨0, 10⟩ : S24)] : List (S24))) (inner := [.int .i64 0, .int .i64 10]) (ok := fun _ => True) (okp := fun _ => True) ?hr ?hp (fun _ hk => hk) trivial (Below.refl _ _) (Nat.le_refl _) (by simp) ?_; (case hd => rfl); (case hg => rfl); (case hr => first | (go_simp; done) | (go_simp; rfl)); (case hp => exact (Reps.c2 (show Kd.M k24 _ _ _ (⟨0, 10⟩ : S24) [.int .i64 0, .int .i64 10] from (k24_mkM _ _ _ (⟨0, 10⟩ : S24) )) (Reps.none _ _))); intro v171 w41 ho42 hb hg_ hnew_; clear hg_ hnew_; (first | rw [← Ny170.out] at ho42 | (simp only [Int.reduceToNat] at ho42; rw [← Ny170.out] at ho42)); have n0_ := Aside0.mk (Kd.R_elder' (by (with_reducible repeat (first | apply Kd.R_alloc | apply Kd.R_drewN | apply Kd.R_drew)); exact HO160.out) (Kd.R_base ho42) hb); have n1_ := Aside0.mk (Kd.R_elder' (by (with_reducible repeat (first | apply Kd.R_alloc | apply Kd.R_drewN | apply Kd.R_drew)); exact HO163.out) (Kd.R_base ho42) hb); have n2_ := Aside0.mk (Kd.R_elder' (by (with_reducible repeat (first | apply Kd.R_alloc | apply Kd.R_drewN | apply Kd.R_drew)); exact HO166.out) (Kd.R_base ho42) hb); have n3_ := Aside0.mk (Kd.R_below (by (with_reducible repeat (first | apply Kd.R_alloc | apply Kd.R_drewN | apply Kd.R_drew)); exact HO169.out) hb); have n4_ := Aside0.mk (Kd.R_lower (Kd.R_new' (Kd.R_new' (Kd.R_new' ho42 (Kd.R_lt (by (with_reducible repeat (first | apply Kd.R_alloc | apply Kd.R_drewN | apply Kd.R_drew)); exact HO160.out))) (Kd.R_lt (by (with_reducible repeat (first | apply Kd.R_alloc | apply Kd.R_drewN | apply Kd.R_drew)); exact HO163.out))) (Kd.R_lt (by (with_reducible repeat (first | apply Kd.R_alloc | apply Kd.R_drewN | apply Kd.R_drew)); exact HO166.out))) (below_size (by repeat (first | (with_reducible first | exact HB.out | apply below_alloc | apply pw_below_drewN | apply below_drew1) | exact HB.out)))); have n5_ := Aside0.mk (below_step (by repeat (first | (with_reducible first | exact HB.out | apply below_alloc | apply pw_below_drewN | apply below_drew1) | exact HB.out)) hb); clear HO160; clear HO163; clear HO166; clear HO169; clear HB; have HO160 := n0_; have HO163 := n1_; have HO166 := n2_; have HO169 := n3_; have HO172 := n4_; have HB := n5_; clear n0_ n1_ n2_ n3_ n4_ n5_; clear hb ho42; obtain ⟨Ao43, co43, eo43⟩ := Kd.R_slice HO163.out; subst eo43; obtain ⟨Ao44, co44, eo44⟩ := Kd.R_slice HO172.out; subst eo44) | ((with_reducible refine gate_dst (N := 15) rfl ?_); refine goesL_ (some 15) rfl rfl Try.func25 (by kernel_rfl) rfl #[.slice Ao43 t161.length co43, .slice Ao44 y170.length co44] rfl (by (try simp only [List.map_toArray, List.map_cons, List.map_nil]); first | done | rfl | (simp only [List.length_drop, List.length_take]; rfl)) ?_; (with_reducible refine (spec_RangesSame.calls k _ _ t161 _ _ y170 false _ ?side1 ?side2 ?side3 ?side4 A3.out).mono ?_); (case side1 => repeat (first | exact (Kd.R_reads' HO163.out).2.2 | (with_reducible refine Kd.C_alloc ?_ _) | (with_reducible refine Kd.C_drewN ?_ _) | (with_reducible refine Kd.C_drew ?_))); (case side2 => exact (Kd.R_reads' HO163.out).2.1); (case side3 => repeat (first | exact (Kd.R_reads' HO172.out).2.2 | (with_reducible refine Kd.C_alloc ?_ _) | (with_reducible refine Kd.C_drewN ?_ _) | (with_reducible refine Kd.C_drew ?_))); (case side4 => exact (Kd.R_reads' HO172.out).2.1); rintro e w' ⟨rfl, ⟨nd, rfl⟩⟩; refine ⟨_, rfl, ?_⟩))
  go_ret
  exact ⟨by first | rfl | (simp [errW_none, errW_some] <;> rfl) | (simp [*, errW_none, errW_some] <;> rfl), by repeat (first | (with_reducible first | exact HB.out | apply below_alloc | apply pw_below_drewN | apply below_drew1) | exact HB.out)⟩

end Go.Proofs.Ytmkhkkfliecfdaa.PT
