-- Written by a program of this session. -- slim
import Derived.Test.YtmkhkkfliecfdaaPTx20
import Derived.Test.YtmkhkkfliecfdaaGivenE
namespace Go.Proofs.Ytmkhkkfliecfdaa.PU
open Go.RowKit Go.Proofs.YtmkhkkfliecfdaaW.PrintWords Go.Proofs.YtmkhkkfliecfdaaW.PrintLast Go.Proofs.Ytmkhkkfliecfdaa.Given Go.Proofs.Ytmkhkkfliecfdaa.PT Go.Proofs.Ytmkhkkfliecfdaa.Mm
attribute [local go_sem] mx_go mn_go
set_option linter.unusedVariables false
set_option linter.unusedSimpArgs false

attribute [local go_sem high] idx70
/-! ### ranges_Ranges_Size: function 40 -/
def ranges_Ranges_Size.l0 : Nat → Int → List (S48) → Int → Int → Option (Int)
 | 0, _, _, _, _ => none
 | k + 1, x2, x5, x6, x7 => if x7 < x6 then (if 0 ≤ x7 then (if x7 < (x5.length : Int) then (ranges_Ranges_Size.l0 k (wrap64 (x2 + ((rd_T48 x5 x7).f1))) x5 x6 (wrap64 (x7 + 1))) else (none)) else (none)) else (some x2)
def ranges_Ranges_Size.f (k : Nat) (l0 : List (S48)) : Option (Int) := ranges_Ranges_Size.l0 k 0 l0 (l0.length : Int) 0
theorem ranges_Ranges_Size.mono_l : ∀ k, (∀ y0 y1 y2 y3, LeO (ranges_Ranges_Size.l0 k y0 y1 y2 y3) (ranges_Ranges_Size.l0 (k + 1) y0 y1 y2 y3))
 | 0 => fun _ _ _ _ r h => by simp [ranges_Ranges_Size.l0] at h
 | k + 1 => by
  have ih0 := ranges_Ranges_Size.mono_l k
  ·intro y0 y1 y2 y3
   unfold ranges_Ranges_Size.l0
   repeat' first
   | (with_reducible exact ih0 _ _ _ _)
   | (with_reducible exact LeO.refl _)
   | (with_reducible exact LeO.none _)
   | (with_reducible refine LeO.ite ?_ ?_)
   | (with_reducible refine LeO.bind ?_ (fun _ => ?_))
   | exact ih0 _ _ _ _
   | exact LeO.none _
   | refine LeO.ite ?_ ?_
   | refine LeO.bind ?_ (fun _ => ?_)
theorem ranges_Ranges_Size.mono : ∀ a0 k, LeO (ranges_Ranges_Size.f k a0) (ranges_Ranges_Size.f (k + 1) a0) := by
 intro a0 k
 have ih0 := ranges_Ranges_Size.mono_l k
 unfold ranges_Ranges_Size.f
 repeat' first
   | (with_reducible exact ih0 _ _ _ _)
   | (with_reducible exact LeO.refl _)
   | (with_reducible exact LeO.none _)
   | (with_reducible refine LeO.ite ?_ ?_)
   | (with_reducible refine LeO.bind ?_ (fun _ => ?_))
   | exact ih0 _ _ _ _
   | exact LeO.none _
   | refine LeO.ite ?_ ?_
   | refine LeO.bind ?_ (fun _ => ?_)
set_option maxHeartbeats 8000000 in
set_option maxRecDepth 100000 in
theorem ranges_Ranges_Size.calls (k : Nat) (A0 : Option Addr) (c0 : Nat) (l0 : List (S48)) (r : Int) (w : World) (hr0 : Kd.C k48 w A0 l0.length l0) (hc0 : l0.length ≤ c0) (h : ranges_Ranges_Size.f k l0 = some r) :
  Calls Try.prog 40 #[.slice A0 l0.length c0] w fun e w' => e = .returned (.int .i64 r) ∧ Below w.heap.size w w' := by
 have hu48 := Try.underlying48
 have HR0 := Aside0.mk hr0
 have HC0 := Aside0.mk hc0
 clear hr0 hc0
 have HB := Aside0.mk (Below.refl w.heap.size w)
 have H : (ranges_Ranges_Size.l0 k 0 l0 (l0.length : Int) 0) = some r := h
 clear h
 have H' := Aside0.mk H
 clear H
 go_enter Try.func40, Try.ntmps40
 go_wp2
 go_loopg [2, 7] k (fun kq v2 v7 w' => ∃ (x2_1 : Int) (x7_1 : Int), v2 = .int .i64 x2_1 ∧ v7 = .int .i64 x7_1 ∧ Aside0 (ranges_Ranges_Size.l0 kq x2_1 l0 (l0.length : Int) x7_1 = some r) ∧ Aside0 (kq ≤ k) ∧ Aside0 (Below w.heap.size w w'))
 case atStart => exact ⟨(0), (0), (by first | rfl | (simp; done) | (simp [*]; done)), (by first | rfl | (simp; done) | (simp [*]; done)), H', ⟨Nat.le_refl _⟩, ⟨by repeat (first | (with_reducible first | exact HB.out | apply below_alloc | apply pw_below_drewN | apply below_drew1) | exact HB.out)⟩⟩
 case round =>
  clear H'
  obtain ⟨x2_1, x7_1, rfl, rfl, HA, HK1, HB⟩ := hrel
  cases gk with
  | zero => exact absurd HA.out (by simp [ranges_Ranges_Size.l0])
  | succ k1 =>
   have H := HA.out
   clear HA
   simp only [ranges_Ranges_Size.l0] at H
   by_cases c2 : x7_1 < (l0.length : Int)
   ·rw [if_pos c2] at H
    have c2b0 : decide (x7_1 < (l0.length : Int)) = true := decide_eq_true c2
    clear c2
    by_cases c3 : 0 ≤ x7_1
    ·rw [if_pos c3] at H
     have c3b0 : decide (0 ≤ x7_1) = true := decide_eq_true c3
     clear c3
     by_cases c4 : x7_1 < (l0.length : Int)
     ·rw [if_pos c4] at H
      have c4b0 : decide (x7_1 < (l0.length : Int)) = true := decide_eq_true c4
      clear c4
      have H' := Aside0.mk H
      clear H
      have p139 : 0 ≤ (x7_1 : Int) := of_decide_eq_true (by first | (with_reducible assumption) | assumption)
      have q139 : x7_1 < (l0.length : Int) := of_decide_eq_true (by first | (with_reducible assumption) | assumption)
      obtain ⟨ad139, e139, hx139_0, hx139_1⟩ := at_T48 HR0.out x7_1 p139 q139
      cases e139
      replace hx139_0 := (HB.out.cell (World.block_lt_of_cell? w _ hx139_0)).trans hx139_0
      replace hx139_1 := (HB.out.cell (World.block_lt_of_cell? w _ hx139_1)).trans hx139_1
      replace p139 := eq_true p139
      replace q139 := eq_true q139
      go_wp2_with (first | ((with_reducible refine gate_dst (N := 4) rfl ?_); refine box_event ?hg (N := 4) ?hd (cs := #[.int .i64 0, .int .i64 0]) (t := 48) ?hr ?_; (case hd => rfl); (case hg => rfl); (case hr => first | (go_simp; done) | (go_simp; rfl)); intro gb140 hg w5 hbox hb; have n0_ := Aside0.mk (below_step (by repeat (first | (with_reducible first | exact HB.out | apply below_alloc | apply pw_below_drewN | apply below_drew1) | exact HB.out)) hb); have n1_ := Aside0.mk (hbox); have n2_ := Aside0.mk ((by rw [hg]; exact (below_size (by repeat (first | (with_reducible first | exact HB.out | apply below_alloc | apply pw_below_drewN | apply below_drew1) | exact HB.out))) : w.heap.size ≤ gb140)); have n3_ := Aside0.mk ((by rw [hg]; exact (below_size (by repeat (first | (with_reducible first | exact HB.out | apply below_alloc | apply pw_below_drewN | apply below_drew1) | exact HB.out))) : w.heap.size ≤ gb140)); clear HB; have HB := n0_; have BK140 := n1_; have GW140 := n2_; have GE140 := n3_; clear n0_ n1_ n2_ n3_; clear hb hbox hg; have hcz6_0 : w5.cell? ⟨gb140, 0, none⟩ = some (.int .i64 0) := (blk_cell BK140.out 0).trans rfl; have hcz6_1 : w5.cell? ⟨gb140, 1, none⟩ = some (.int .i64 0) := (blk_cell BK140.out 1).trans rfl; have hfz6_0 := blk_frozen BK140.out 0; have hfz6_1 := blk_frozen BK140.out 1))
      go_roundg k1
      case measure => have := HK1.out; omega
      case rel => exact ⟨(wrap64 (x2_1 + ((rd_T48 l0 x7_1).f1))), (wrap64 (x7_1 + 1)), (by first | rfl | (simp; done) | (simp [*]; done)), (by first | rfl | (simp; done) | (simp [*]; done)), H', ⟨by have := HK1.out; omega⟩, ⟨by repeat (first | (with_reducible first | exact HB.out | apply below_alloc | apply pw_below_drewN | apply below_drew1 | refine below_set ?_ GE140.out) | exact HB.out)⟩⟩
     ·rw [if_neg c4] at H
      exact absurd H (by simp)
    ·rw [if_neg c3] at H
     exact absurd H (by simp)
   ·rw [if_neg c2] at H
    have c2b0 : decide (x7_1 < (l0.length : Int)) = false := decide_eq_false c2
    clear c2
    obtain rfl := Option.some.inj H
    go_wp2
    go_ret
    exact ⟨by first | rfl | (simp [errW_none, errW_some] <;> rfl) | (simp [*, errW_none, errW_some] <;> rfl), by repeat (first | (with_reducible first | exact HB.out | apply below_alloc | apply pw_below_drewN | apply below_drew1) | exact HB.out)⟩

/-! ### impl_RangesSize: function 18 -/
def impl_RangesSize.f (k : Nat) (l0 : List (S24)) : Option (Int) := (impl_inserted.f l0).bind fun t141 => ((ranges_Ranges_Size.f k t141).bind fun t144 => (some t144))
theorem impl_RangesSize.mono : ∀ a0 k, LeO (impl_RangesSize.f k a0) (impl_RangesSize.f (k + 1) a0) := by
 intro a0 k
 unfold impl_RangesSize.f
 repeat' first
   | (with_reducible exact ranges_Ranges_Size.mono _ _)
   | (with_reducible exact LeO.refl _)
   | (with_reducible exact LeO.none _)
   | (with_reducible refine LeO.ite ?_ ?_)
   | (with_reducible refine LeO.bind ?_ (fun _ => ?_))
   | exact ranges_Ranges_Size.mono _ _
   | exact LeO.none _
   | refine LeO.ite ?_ ?_
   | refine LeO.bind ?_ (fun _ => ?_)
set_option maxHeartbeats 8000000 in
set_option maxRecDepth 100000 in
theorem impl_RangesSize.calls (k : Nat) (A0 : Option Addr) (c0 : Nat) (l0 : List (S24)) (r : Int) (w : World) (hr0 : Kd.C k24 w A0 l0.length l0) (hc0 : l0.length ≤ c0) (h : impl_RangesSize.f k l0 = some r) :
  Calls Try.prog 18 #[.slice A0 l0.length c0] w fun e w' => e = .returned (.int .i64 r) ∧ Below w.heap.size w w' := by
 have HR0 := Aside0.mk hr0
 have HC0 := Aside0.mk hc0
 clear hr0 hc0
 have HB := Aside0.mk (Below.refl w.heap.size w)
 have H : ((impl_inserted.f l0).bind fun t141 => ((ranges_Ranges_Size.f k t141).bind fun t144 => (some t144))) = some r := h
 clear h
 replace H := Option.bind_eq_some_iff.mp H
 obtain ⟨t141, A20, H⟩ := H
 replace H : ((ranges_Ranges_Size.f k t141).bind fun t144 => (some t144)) = some r := H
 have A2 := Aside0.mk A20
 clear A20
 replace H := Option.bind_eq_some_iff.mp H
 obtain ⟨t144, A30, H⟩ := H
 replace H : (some t144) = some r := H
 have A3 := Aside0.mk A30
 clear A30
 obtain rfl := Option.some.inj H
 go_enter Try.func18, Try.ntmps18
 go_wp2_with (first | ((with_reducible refine gate_dst (N := 4) rfl ?_); refine goesL_ (some 4) rfl rfl Try.func32 (by kernel_rfl) rfl #[.slice A0 l0.length c0] rfl (by (try simp only [List.map_toArray, List.map_cons, List.map_nil]); first | done | rfl | (simp only [List.length_drop, List.length_take]; rfl)) ?_; (with_reducible refine (impl_inserted.calls _ _ l0 t141 _ ?side1 ?side2 A2.out).mono ?_); (case side1 => repeat (first | exact HR0.out | (with_reducible refine Kd.C_alloc ?_ _) | (with_reducible refine Kd.C_drewN ?_ _) | (with_reducible refine Kd.C_drew ?_))); (case side2 => exact HC0.out); rintro e w4 ⟨v142, rfl, ho0, hb⟩; refine ⟨_, rfl, ?_⟩; have n0_ := Aside0.mk (Kd.R_lower ho0 (below_size (by repeat (first | (with_reducible first | exact HB.out | apply below_alloc | apply pw_below_drewN | apply below_drew1) | exact HB.out)))); have n1_ := Aside0.mk (below_step (by repeat (first | (with_reducible first | exact HB.out | apply below_alloc | apply pw_below_drewN | apply below_drew1) | exact HB.out)) hb); clear HB; have HO143 := n0_; have HB := n1_; clear n0_ n1_; (try clear hb); (try clear hb2); (try clear hk); (try clear hi); (try clear ho0); obtain ⟨Ao5, co5, eo5⟩ := Kd.R_slice HO143.out; subst eo5) | ((with_reducible refine gate_dst (N := 5) rfl ?_); refine goesL_ (some 5) rfl rfl Try.func40 (by kernel_rfl) rfl #[.slice Ao5 t141.length co5] rfl (by (try simp only [List.map_toArray, List.map_cons, List.map_nil]); first | done | rfl | (simp only [List.length_drop, List.length_take]; rfl)) ?_; (with_reducible refine (ranges_Ranges_Size.calls k _ _ t141 t144 _ ?side1 ?side2 A3.out).mono ?_); (case side1 => repeat (first | exact (Kd.R_reads' HO143.out).2.2 | (with_reducible refine Kd.C_alloc ?_ _) | (with_reducible refine Kd.C_drewN ?_ _) | (with_reducible refine Kd.C_drew ?_))); (case side2 => exact (Kd.R_reads' HO143.out).2.1); rintro e w6 ⟨rfl, hb⟩; refine ⟨_, rfl, ?_⟩; have n0_ := Aside0.mk (Kd.R_below (by (with_reducible repeat (first | apply Kd.R_alloc | apply Kd.R_drewN | apply Kd.R_drew)); exact HO143.out) hb); have n1_ := Aside0.mk (below_step (by repeat (first | (with_reducible first | exact HB.out | apply below_alloc | apply pw_below_drewN | apply below_drew1) | exact HB.out)) hb); clear HO143; clear HB; have HO143 := n0_; have HB := n1_; clear n0_ n1_; (try clear hb); (try clear hb2); (try clear hk); (try clear hi)))
 go_ret
 exact ⟨by first | rfl | (simp [errW_none, errW_some] <;> rfl) | (simp [*, errW_none, errW_some] <;> rfl), by repeat (first | (with_reducible first | exact HB.out | apply below_alloc | apply pw_below_drewN | apply below_drew1) | exact HB.out)⟩

/-! ### impl_RangesCut: function 29 -/
def impl_RangesCut.f (k : Nat) (l0 : List (S24)) (a1_0 : Int) (a1_1 : Int) : Option ((List (S24))) := (impl_inserted.f l0).bind fun t146 => ((impl_given.f a1_0 a1_1).bind fun bt149 => ((ranges_Intersection.f t146 bt149.1 bt149.2).bind fun t151 => ((impl_tellAll.f k t151).bind fun t154 => (some t154))))
theorem impl_RangesCut.mono : ∀ a0 a1 a2 k, LeO (impl_RangesCut.f k a0 a1 a2) (impl_RangesCut.f (k + 1) a0 a1 a2) := by
 intro a0 a1 a2 k
 unfold impl_RangesCut.f
 repeat' first
   | (with_reducible exact impl_tellAll.mono _ _)
   | (with_reducible exact LeO.refl _)
   | (with_reducible exact LeO.none _)
   | (with_reducible refine LeO.ite ?_ ?_)
   | (with_reducible refine LeO.bind ?_ (fun _ => ?_))
   | exact impl_tellAll.mono _ _
   | exact LeO.none _
   | refine LeO.ite ?_ ?_
   | refine LeO.bind ?_ (fun _ => ?_)
set_option maxHeartbeats 8000000 in
set_option maxRecDepth 100000 in
theorem impl_RangesCut.calls (k : Nat) (A0 : Option Addr) (c0 : Nat) (l0 : List (S24)) (a1_0 : Int) (a1_1 : Int) (r : List (S24)) (w : World) (hr0 : Kd.C k24 w A0 l0.length l0) (hc0 : l0.length ≤ c0) (h : impl_RangesCut.f k l0 a1_0 a1_1 = some r) :
  Calls Try.prog 29 #[.slice A0 l0.length c0, .agg #[.int .i64 a1_0, .int .i64 a1_1]] w fun e w' => ∃ v0_ : Value, e = .returned (v0_) ∧ Kd.R k24 24 w' w.heap.size (fun _ => True) v0_ r ∧ Below w.heap.size w w' := by
 have hu24 := Try.underlying24
 have HR0 := Aside0.mk hr0
 have HC0 := Aside0.mk hc0
 clear hr0 hc0
 have HB := Aside0.mk (Below.refl w.heap.size w)
 have H : ((impl_inserted.f l0).bind fun t146 => ((impl_given.f a1_0 a1_1).bind fun bt149 => ((ranges_Intersection.f t146 bt149.1 bt149.2).bind fun t151 => ((impl_tellAll.f k t151).bind fun t154 => (some t154))))) = some r := h
 clear h
 replace H := Option.bind_eq_some_iff.mp H
 obtain ⟨t146, A30, H⟩ := H
 replace H : ((impl_given.f a1_0 a1_1).bind fun bt149 => ((ranges_Intersection.f t146 bt149.1 bt149.2).bind fun t151 => ((impl_tellAll.f k t151).bind fun t154 => (some t154)))) = some r := H
 have A3 := Aside0.mk A30
 clear A30
 replace H := Option.bind_eq_some_iff.mp H
 obtain ⟨⟨t149, t150⟩, A40, H⟩ := H
 replace H : ((ranges_Intersection.f t146 t149 t150).bind fun t151 => ((impl_tellAll.f k t151).bind fun t154 => (some t154))) = some r := H
 have A4 := Aside0.mk A40
 clear A40
 replace H := Option.bind_eq_some_iff.mp H
 obtain ⟨t151, A50, H⟩ := H
 replace H : ((impl_tellAll.f k t151).bind fun t154 => (some t154)) = some r := H
 have A5 := Aside0.mk A50
 clear A50
 replace H := Option.bind_eq_some_iff.mp H
 obtain ⟨t154, A60, H⟩ := H
 replace H : (some t154) = some r := H
 have A6 := Aside0.mk A60
 clear A60
 obtain rfl := Option.some.inj H
 go_enter Try.func29, Try.ntmps29
 try go_wp2_with (first | ((with_reducible refine gate_dst (N := 3) rfl ?_); refine box_event ?hg (N := 3) ?hd (cs := #[.int .i64 a1_0, .int .i64 a1_1]) (t := 24) ?hr ?_; (case hd => rfl); (case hg => rfl); (case hr => first | (go_simp; done) | (go_simp; rfl)); intro gb145 hg w7 hbox hb; have n0_ := Aside0.mk (below_step (by repeat (first | (with_reducible first | exact HB.out | apply below_alloc | apply pw_below_drewN | apply below_drew1) | exact HB.out)) hb); have n1_ := Aside0.mk (hbox); have n2_ := Aside0.mk ((by rw [hg]; exact (below_size (by repeat (first | (with_reducible first | exact HB.out | apply below_alloc | apply pw_below_drewN | apply below_drew1) | exact HB.out))) : w.heap.size ≤ gb145)); have n3_ := Aside0.mk ((by rw [hg]; exact (below_size (by repeat (first | (with_reducible first | exact HB.out | apply below_alloc | apply pw_below_drewN | apply below_drew1) | exact HB.out))) : w.heap.size ≤ gb145)); clear HB; have HB := n0_; have BK145 := n1_; have GW145 := n2_; have GE145 := n3_; clear n0_ n1_ n2_ n3_; clear hb hbox hg))
 have n0_ := Aside0.mk (blk_drew BK145.out)
 have n1_ := Aside0.mk (below_drew1 HB.out)
 clear BK145
 clear HB
 have BK145 := n0_
 have HB := n1_
 clear n0_ n1_
 refine start_ (n := 7) (S := fun w' => w'.cell? ⟨gb145, 0, none⟩ = some (.int .i64 a1_0) ∧ w'.cell? ⟨gb145, 1, none⟩ = some (.int .i64 a1_1)) (ds := []) #[false, false, false, false, false, false, false] (by kernel_rfl) rfl rfl ⟨(blk_cell BK145.out 0).trans rfl, (blk_cell BK145.out 1).trans rfl⟩ (fun hHeld => ?_)
 generalize w7.drew = w8 at BK145 HB hHeld ⊢
 refine pure_ (i := 0) (N := some 5) (v := ?_) (a' := ?_) #[true, false, false, false, false, false, false] rfl rfl (by kernel_rfl) (fun _ _ _ h => h) (Or.inl ⟨by rfl, ?_⟩) ?_ ?_
 rotate_left
 ·intro w'
  go_simp
  with_reducible rfl
 rotate_left
 ·simp only [Act.put, List.setIfInBounds_toArray, List.set_cons_zero, List.set_cons_succ, i64_w, i32_w]
  rfl
 refine take_ (i := 2) (N := some 7) (v := ?_) (a' := ?_) #[true, false, true, false, false, false, false] rfl rfl (by kernel_rfl) (fun _ _ _ h => h) (Or.inl ⟨by rfl, ?_⟩) hHeld ?_ ?_
 rotate_left
 ·rintro w' ⟨s0, s1⟩
  go_simp
  with_reducible rfl
 rotate_left
 ·simp only [Act.put, List.setIfInBounds_toArray, List.set_cons_zero, List.set_cons_succ, i64_w, i32_w]
  rfl
 refine one_ (i := 1) (N := some 6) #[true, true, true, false, false, false, false] rfl rfl (by kernel_rfl) (by decide) (fun K hK => ?_)
 refine goes_ Try.func32 (by kernel_rfl) rfl #[.slice A0 l0.length c0] (by rfl) rfl rfl (by (try simp only [List.map_toArray, List.map_cons, List.map_nil]); first | done | rfl | (simp only [List.length_drop, List.length_take]; rfl)) ?_
 with_reducible refine (impl_inserted.calls _ _ l0 t146 _ ?side1 ?side2 A3.out).mono ?_
 (case side1 => repeat (first | exact (Kd.C_below HR0.out HB.out) | (with_reducible refine Kd.C_alloc ?_ _) | (with_reducible refine Kd.C_drewN ?_ _) | (with_reducible refine Kd.C_drew ?_)))
 (case side2 => exact HC0.out)
 rintro e w9 ⟨v147, rfl, ho0, hb⟩
 refine ⟨_, rfl, ?_⟩
 have n0_ := Aside0.mk (Kd.R_lower ho0 (below_size (by repeat (first | (with_reducible first | exact HB.out | apply below_alloc | apply pw_below_drewN | apply below_drew1 | refine below_set ?_ GE145.out) | exact HB.out))))
 have n1_ := Aside0.mk (blk_below (g := gb145) (o := .cells #[.int .i64 a1_0, .int .i64 a1_1] 24 (0, 0)) (by (with_reducible repeat (first | refine blk_drewN ?_ _ | refine blk_drew ?_ | refine blk_alloc ?_ _)); exact BK145.out) hb)
 have n2_ := Aside0.mk (below_step (by repeat (first | (with_reducible first | exact HB.out | apply below_alloc | apply pw_below_drewN | apply below_drew1 | refine below_set ?_ GE145.out) | exact HB.out)) hb)
 clear BK145
 clear HB
 have HO148 := n0_
 have BK145 := n1_
 have HB := n2_
 clear n0_ n1_ n2_
 (try clear hb)
 (try clear hb2)
 (try clear hk)
 (try clear hi)
 (try clear ho0)
 refine hK.out _ _ ⟨(blk_cell BK145.out 0).trans rfl, (blk_cell BK145.out 1).trans rfl⟩ (fun hHeld => ?_)
 clear hK K
 refine norm_ (a' := ?_) ?_ ?_
 rotate_left
 ·show Act.put _ (some 6) _ = _
  simp only [Act.put, List.setIfInBounds_toArray, List.set_cons_zero, List.set_cons_succ, i64_w, i32_w]
  rfl
 refine one_ (i := 3) (N := some 8) #[true, true, true, true, false, false, false] rfl rfl (by kernel_rfl) (by decide) (fun K hK => ?_)
 refine goes_ Try.func34 (by kernel_rfl) rfl #[.agg #[.int .i64 a1_0, .int .i64 a1_1]] (by rfl) rfl rfl (by (try simp only [List.map_toArray, List.map_cons, List.map_nil]); first | done | rfl | (simp only [List.length_drop, List.length_take]; rfl)) ?_
 with_reducible refine (impl_given.calls a1_0 a1_1 t149 t150 _ A4.out).mono ?_
 rintro e w10 ⟨rfl, hb⟩
 refine ⟨_, rfl, ?_⟩
 have n0_ := Aside0.mk (Kd.R_below (by (with_reducible repeat (first | apply Kd.R_alloc | apply Kd.R_drewN | apply Kd.R_drew)); exact HO148.out) hb)
 have n1_ := Aside0.mk (blk_below (g := gb145) (o := .cells #[.int .i64 a1_0, .int .i64 a1_1] 24 (0, 0)) (by (with_reducible repeat (first | refine blk_drewN ?_ _ | refine blk_drew ?_ | refine blk_alloc ?_ _)); exact BK145.out) hb)
 have n2_ := Aside0.mk (below_step (by repeat (first | (with_reducible first | exact HB.out | apply below_alloc | apply pw_below_drewN | apply below_drew1 | refine below_set ?_ GE145.out) | exact HB.out)) hb)
 clear HO148
 clear BK145
 clear HB
 have HO148 := n0_
 have BK145 := n1_
 have HB := n2_
 clear n0_ n1_ n2_
 (try clear hb)
 (try clear hb2)
 (try clear hk)
 (try clear hi)
 obtain ⟨Ao11, co11, eo11⟩ := Kd.R_slice HO148.out
 (first | subst eo11 | (injection eo11 with f1_ f2_ f3_; have f4_ := f1_.symm; have f5_ := f3_.symm; clear f1_ f2_ f3_; subst f4_; subst f5_))
 refine hK.out _ _ ⟨(blk_cell BK145.out 0).trans rfl, (blk_cell BK145.out 1).trans rfl⟩ (fun hHeld => ?_)
 clear hK K
 refine norm_ (a' := ?_) ?_ ?_
 rotate_left
 ·show Act.put _ (some 8) _ = _
  simp only [Act.put, List.setIfInBounds_toArray, List.set_cons_zero, List.set_cons_succ, i64_w, i32_w]
  rfl
 refine one_ (i := 4) (N := some 9) #[true, true, true, true, true, false, false] rfl rfl (by kernel_rfl) (by decide) (fun K hK => ?_)
 refine goes_ Try.func48 (by kernel_rfl) rfl #[.slice Ao11 t146.length co11, .agg #[.int .i64 t149, .int .i64 t150]] (by rfl) rfl rfl (by (try simp only [List.map_toArray, List.map_cons, List.map_nil]); first | done | rfl | (simp only [List.length_drop, List.length_take]; rfl)) ?_
 with_reducible refine (ranges_Intersection.calls _ _ t146 t149 t150 t151 _ ?side1 ?side2 A5.out).mono ?_
 (case side1 => repeat (first | exact (Kd.R_reads' HO148.out).2.2 | (with_reducible refine Kd.C_alloc ?_ _) | (with_reducible refine Kd.C_drewN ?_ _) | (with_reducible refine Kd.C_drew ?_)))
 (case side2 => exact (Kd.R_reads' HO148.out).2.1)
 rintro e w12 ⟨Ao13, co13, rfl, hle13, hC13, hb⟩
 refine ⟨_, rfl, ?_⟩
 have n0_ := Aside0.mk (Kd.R_below (by (with_reducible repeat (first | apply Kd.R_alloc | apply Kd.R_drewN | apply Kd.R_drew)); exact HO148.out) hb)
 have HO153 := Aside0.mk hC13
 have HL153 := Aside0.mk hle13
 have n2_ := Aside0.mk (blk_below (g := gb145) (o := .cells #[.int .i64 a1_0, .int .i64 a1_1] 24 (0, 0)) (by (with_reducible repeat (first | refine blk_drewN ?_ _ | refine blk_drew ?_ | refine blk_alloc ?_ _)); exact BK145.out) hb)
 have n3_ := Aside0.mk (below_step (by repeat (first | (with_reducible first | exact HB.out | apply below_alloc | apply pw_below_drewN | apply below_drew1 | refine below_set ?_ GE145.out) | exact HB.out)) hb)
 clear HO148
 clear BK145
 clear HB
 have HO148 := n0_
 have BK145 := n2_
 have HB := n3_
 clear n0_ n2_ n3_ hle13 hC13
 (try clear hb)
 refine hK.out _ _ ⟨(blk_cell BK145.out 0).trans rfl, (blk_cell BK145.out 1).trans rfl⟩ (fun hHeld => ?_)
 clear hK K
 refine norm_ (a' := ?_) ?_ ?_
 rotate_left
 ·show Act.put _ (some 9) _ = _
  simp only [Act.put, List.setIfInBounds_toArray, List.set_cons_zero, List.set_cons_succ, i64_w, i32_w]
  rfl
 refine one_ (i := 5) (N := some 10) #[true, true, true, true, true, true, false] rfl rfl (by kernel_rfl) (by decide) (fun K hK => ?_)
 refine goes_ Try.func47 (by kernel_rfl) rfl #[.slice Ao13 t151.length co13] (by rfl) rfl rfl (by (try simp only [List.map_toArray, List.map_cons, List.map_nil]); first | done | rfl | (simp only [List.length_drop, List.length_take]; rfl)) ?_
 with_reducible refine (impl_tellAll.calls k _ _ t151 t154 _ ?side1 ?side2 A6.out).mono ?_
 (case side1 => repeat (first | exact HO153.out | (with_reducible refine Kd.C_alloc ?_ _) | (with_reducible refine Kd.C_drewN ?_ _) | (with_reducible refine Kd.C_drew ?_)))
 (case side2 => exact HL153.out)
 rintro e w14 ⟨v155, rfl, ho0, hb⟩
 refine ⟨_, rfl, ?_⟩
 have n0_ := Aside0.mk (Kd.R_below (by (with_reducible repeat (first | apply Kd.R_alloc | apply Kd.R_drewN | apply Kd.R_drew)); exact HO148.out) hb)
 have n2_ := Aside0.mk (Kd.R_lower (Kd.R_newB ho0 (g := gb145) (o := .cells #[.int .i64 a1_0, .int .i64 a1_1] 24 (0, 0)) (by (with_reducible repeat (first | refine blk_drewN ?_ _ | refine blk_drew ?_ | refine blk_alloc ?_ _)); exact BK145.out)) (below_size (by repeat (first | (with_reducible first | exact HB.out | apply below_alloc | apply pw_below_drewN | apply below_drew1 | refine below_set ?_ GE145.out) | exact HB.out))))
 have n3_ := Aside0.mk (blk_below (g := gb145) (o := .cells #[.int .i64 a1_0, .int .i64 a1_1] 24 (0, 0)) (by (with_reducible repeat (first | refine blk_drewN ?_ _ | refine blk_drew ?_ | refine blk_alloc ?_ _)); exact BK145.out) hb)
 have n4_ := Aside0.mk (below_step (by repeat (first | (with_reducible first | exact HB.out | apply below_alloc | apply pw_below_drewN | apply below_drew1 | refine below_set ?_ GE145.out) | exact HB.out)) hb)
 clear HO148
 clear BK145
 clear HB
 have HO148 := n0_
 have HO156 := n2_
 have BK145 := n3_
 have HB := n4_
 clear n0_ n2_ n3_ n4_
 (try clear hb)
 (try clear hb2)
 (try clear hk)
 (try clear hi)
 (try clear ho0)
 refine hK.out _ _ ⟨(blk_cell BK145.out 0).trans rfl, (blk_cell BK145.out 1).trans rfl⟩ (fun hHeld => ?_)
 clear hK K
 refine norm_ (a' := ?_) ?_ ?_
 rotate_left
 ·show Act.put _ (some 10) _ = _
  simp only [Act.put, List.setIfInBounds_toArray, List.set_cons_zero, List.set_cons_succ, i64_w, i32_w]
  rfl
 refine pure_ (i := 6) (N := some 4) (v := ?_) (a' := ?_) #[true, true, true, true, true, true, true] rfl rfl (by kernel_rfl) (fun _ _ _ h => h) (Or.inl ⟨by rfl, ?_⟩) ?_ ?_
 rotate_left
 ·intro w'
  go_simp
  with_reducible rfl
 rotate_left
 ·simp only [Act.put, List.setIfInBounds_toArray, List.set_cons_zero, List.set_cons_succ, i64_w, i32_w]
  rfl
 refine done_ (by kernel_rfl) ?_
 try go_wp2
 go_ret
 exact ⟨_, by first | rfl | (simp [errW_none, errW_some] <;> rfl) | (simp [*, errW_none, errW_some] <;> rfl), by (with_reducible repeat (first | apply Kd.R_alloc | apply Kd.R_drewN | apply Kd.R_drew)); exact Kd.R_mono HO156.out (fun _ hk => trivial), by repeat (first | (with_reducible first | exact HB.out | apply below_alloc | apply pw_below_drewN | apply below_drew1 | refine below_set ?_ GE145.out) | exact HB.out)⟩

/-! ### laws_FnRangesTwo: function 9 -/
mutual
def laws_FnRangesTwo.j0 : Nat → List (S24) → List (S24) → Bool → Option (Bool)
 | 0, _, _, _ => none
 | k + 1, x0, x1, x17 => if x17 = true then (some true) else ((spec_RangesIn.f k x0).bind fun t157 => (if t157 = true then ((spec_RangesIn.f k x1).bind fun t158 => (if t158 = true then (laws_FnRangesTwo.j1 k x0 x1 (decide ((wrap64 ((x0.length : Int) + (x1.length : Int))) > 60))) else (laws_FnRangesTwo.j1 k x0 x1 true))) else (laws_FnRangesTwo.j1 k x0 x1 true)))
def laws_FnRangesTwo.j1 : Nat → List (S24) → List (S24) → Bool → Option (Bool)
 | 0, _, _, _ => none
 | k + 1, x0, x1, x33 => if x33 = true then (some true) else ((laws_rangeAwake.f k).bind fun t159 => (if t159 = true then ((impl_RangesOf.f k x1).bind fun t160 => (laws_FnRangesTwo.l0 k x0 x1 0 t160 (t160.length : Int) 0)) else (some false)))
def laws_FnRangesTwo.l0 : Nat → List (S24) → List (S24) → Int → List (S24) → Int → Int → Option (Bool)
 | 0, _, _, _, _, _, _ => none
 | k + 1, x0, x1, x5, x37, x38, x39 => if x39 < x38 then (if 0 ≤ x39 then (if x39 < (x37.length : Int) then ((impl_RangesCut.f k x0 ((rd_T24 x37 x39).f0) ((rd_T24 x37 x39).f1)).bind fun t177 => (laws_FnRangesTwo.l1 k x0 x1 x5 x37 x38 x39 t177 (t177.length : Int) 0)) else (none)) else (none)) else ((some (([] : List (S24)) : List (S24))).bind fun y163 => (if y163.length + x0.length < 8796093022208 then ((some (y163 ++ x0 : List (S24))).bind fun y166 => (if y166.length + x1.length < 8796093022208 then ((impl_RangesSize.f k (y166 ++ x1)).bind fun t172 => ((impl_RangesSize.f k x0).bind fun t173 => ((impl_RangesSize.f k x1).bind fun t174 => (some (t172 == (wrap64 ((wrap64 (t173 + t174)) - x5))))))) else (none))) else (none)))
def laws_FnRangesTwo.l1 : Nat → List (S24) → List (S24) → Int → List (S24) → Int → Int → List (S24) → Int → Int → Option (Bool)
 | 0, _, _, _, _, _, _, _, _, _ => none
 | k + 1, x0, x1, x5, x37, x38, x39, x45, x46, x47 => if x47 < x46 then (if 0 ≤ x47 then (if x47 < (x45.length : Int) then (laws_FnRangesTwo.l1 k x0 x1 (wrap64 (x5 + ((rd_T24 x45 x47).f1))) x37 x38 x39 x45 x46 (wrap64 (x47 + 1))) else (none)) else (none)) else (laws_FnRangesTwo.l0 k x0 x1 x5 x37 x38 (wrap64 (x39 + 1)))
end
def laws_FnRangesTwo.f (k : Nat) (l0 : List (S24)) (l1 : List (S24)) : Option (Bool) := if (l0.length : Int) > 2147483647 then (laws_FnRangesTwo.j0 k l0 l1 true) else (laws_FnRangesTwo.j0 k l0 l1 (decide ((l1.length : Int) > 2147483647)))
theorem laws_FnRangesTwo.mono_l : ∀ k, (∀ y0 y1 y2, LeO (laws_FnRangesTwo.j0 k y0 y1 y2) (laws_FnRangesTwo.j0 (k + 1) y0 y1 y2)) ∧ (∀ y0 y1 y2, LeO (laws_FnRangesTwo.j1 k y0 y1 y2) (laws_FnRangesTwo.j1 (k + 1) y0 y1 y2)) ∧ (∀ y0 y1 y2 y3 y4 y5, LeO (laws_FnRangesTwo.l0 k y0 y1 y2 y3 y4 y5) (laws_FnRangesTwo.l0 (k + 1) y0 y1 y2 y3 y4 y5)) ∧ (∀ y0 y1 y2 y3 y4 y5 y6 y7 y8, LeO (laws_FnRangesTwo.l1 k y0 y1 y2 y3 y4 y5 y6 y7 y8) (laws_FnRangesTwo.l1 (k + 1) y0 y1 y2 y3 y4 y5 y6 y7 y8))
 | 0 => ⟨fun _ _ _ r h => by simp [laws_FnRangesTwo.j0] at h, fun _ _ _ r h => by simp [laws_FnRangesTwo.j1] at h, fun _ _ _ _ _ _ r h => by simp [laws_FnRangesTwo.l0] at h, fun _ _ _ _ _ _ _ _ _ r h => by simp [laws_FnRangesTwo.l1] at h⟩
 | k + 1 => by
  obtain ⟨ih0, ih1, ih2, ih3⟩ := laws_FnRangesTwo.mono_l k
  refine ⟨?_, ?_, ?_, ?_⟩
  ·intro y0 y1 y2
   unfold laws_FnRangesTwo.j0
   repeat' first
   | (with_reducible exact ih0 _ _ _)
   | (with_reducible exact ih1 _ _ _)
   | (with_reducible exact ih2 _ _ _ _ _ _)
   | (with_reducible exact ih3 _ _ _ _ _ _ _ _ _)
   | (with_reducible exact impl_RangesCut.mono _ _ _ _)
   | (with_reducible exact impl_RangesOf.mono _ _)
   | (with_reducible exact impl_RangesSize.mono _ _)
   | (with_reducible exact laws_rangeAwake.mono _)
   | (with_reducible exact spec_RangesIn.mono _ _)
   | (with_reducible exact LeO.refl _)
   | (with_reducible exact LeO.none _)
   | (with_reducible refine LeO.ite ?_ ?_)
   | (with_reducible refine LeO.bind ?_ (fun _ => ?_))
   | exact ih0 _ _ _
   | exact ih1 _ _ _
   | exact ih2 _ _ _ _ _ _
   | exact ih3 _ _ _ _ _ _ _ _ _
   | exact impl_RangesCut.mono _ _ _ _
   | exact impl_RangesOf.mono _ _
   | exact impl_RangesSize.mono _ _
   | exact laws_rangeAwake.mono _
   | exact spec_RangesIn.mono _ _
   | exact LeO.none _
   | refine LeO.ite ?_ ?_
   | refine LeO.bind ?_ (fun _ => ?_)
  ·intro y0 y1 y2
   unfold laws_FnRangesTwo.j1
   repeat' first
   | (with_reducible exact ih0 _ _ _)
   | (with_reducible exact ih1 _ _ _)
   | (with_reducible exact ih2 _ _ _ _ _ _)
   | (with_reducible exact ih3 _ _ _ _ _ _ _ _ _)
   | (with_reducible exact impl_RangesCut.mono _ _ _ _)
   | (with_reducible exact impl_RangesOf.mono _ _)
   | (with_reducible exact impl_RangesSize.mono _ _)
   | (with_reducible exact laws_rangeAwake.mono _)
   | (with_reducible exact spec_RangesIn.mono _ _)
   | (with_reducible exact LeO.refl _)
   | (with_reducible exact LeO.none _)
   | (with_reducible refine LeO.ite ?_ ?_)
   | (with_reducible refine LeO.bind ?_ (fun _ => ?_))
   | exact ih0 _ _ _
   | exact ih1 _ _ _
   | exact ih2 _ _ _ _ _ _
   | exact ih3 _ _ _ _ _ _ _ _ _
   | exact impl_RangesCut.mono _ _ _ _
   | exact impl_RangesOf.mono _ _
   | exact impl_RangesSize.mono _ _
   | exact laws_rangeAwake.mono _
   | exact spec_RangesIn.mono _ _
   | exact LeO.none _
   | refine LeO.ite ?_ ?_
   | refine LeO.bind ?_ (fun _ => ?_)
  ·intro y0 y1 y2 y3 y4 y5
   unfold laws_FnRangesTwo.l0
   repeat' first
   | (with_reducible exact ih0 _ _ _)
   | (with_reducible exact ih1 _ _ _)
   | (with_reducible exact ih2 _ _ _ _ _ _)
   | (with_reducible exact ih3 _ _ _ _ _ _ _ _ _)
   | (with_reducible exact impl_RangesCut.mono _ _ _ _)
   | (with_reducible exact impl_RangesOf.mono _ _)
   | (with_reducible exact impl_RangesSize.mono _ _)
   | (with_reducible exact laws_rangeAwake.mono _)
   | (with_reducible exact spec_RangesIn.mono _ _)
   | (with_reducible exact LeO.refl _)
   | (with_reducible exact LeO.none _)
   | (with_reducible refine LeO.ite ?_ ?_)
   | (with_reducible refine LeO.bind ?_ (fun _ => ?_))
   | exact ih0 _ _ _
   | exact ih1 _ _ _
   | exact ih2 _ _ _ _ _ _
   | exact ih3 _ _ _ _ _ _ _ _ _
   | exact impl_RangesCut.mono _ _ _ _
   | exact impl_RangesOf.mono _ _
   | exact impl_RangesSize.mono _ _
   | exact laws_rangeAwake.mono _
   | exact spec_RangesIn.mono _ _
   | exact LeO.none _
   | refine LeO.ite ?_ ?_
   | refine LeO.bind ?_ (fun _ => ?_)
  ·intro y0 y1 y2 y3 y4 y5 y6 y7 y8
   unfold laws_FnRangesTwo.l1
   repeat' first
   | (with_reducible exact ih0 _ _ _)
   | (with_reducible exact ih1 _ _ _)
   | (with_reducible exact ih2 _ _ _ _ _ _)
   | (with_reducible exact ih3 _ _ _ _ _ _ _ _ _)
   | (with_reducible exact impl_RangesCut.mono _ _ _ _)
   | (with_reducible exact impl_RangesOf.mono _ _)
   | (with_reducible exact impl_RangesSize.mono _ _)
   | (with_reducible exact laws_rangeAwake.mono _)
   | (with_reducible exact spec_RangesIn.mono _ _)
   | (with_reducible exact LeO.refl _)
   | (with_reducible exact LeO.none _)
   | (with_reducible refine LeO.ite ?_ ?_)
   | (with_reducible refine LeO.bind ?_ (fun _ => ?_))
   | exact ih0 _ _ _
   | exact ih1 _ _ _
   | exact ih2 _ _ _ _ _ _
   | exact ih3 _ _ _ _ _ _ _ _ _
   | exact impl_RangesCut.mono _ _ _ _
   | exact impl_RangesOf.mono _ _
   | exact impl_RangesSize.mono _ _
   | exact laws_rangeAwake.mono _
   | exact spec_RangesIn.mono _ _
   | exact LeO.none _
   | refine LeO.ite ?_ ?_
   | refine LeO.bind ?_ (fun _ => ?_)
theorem laws_FnRangesTwo.mono : ∀ a0 a1 k, LeO (laws_FnRangesTwo.f k a0 a1) (laws_FnRangesTwo.f (k + 1) a0 a1) := by
 intro a0 a1 k
 obtain ⟨ih0, ih1, ih2, ih3⟩ := laws_FnRangesTwo.mono_l k
 unfold laws_FnRangesTwo.f
 repeat' first
   | (with_reducible exact ih0 _ _ _)
   | (with_reducible exact ih1 _ _ _)
   | (with_reducible exact ih2 _ _ _ _ _ _)
   | (with_reducible exact ih3 _ _ _ _ _ _ _ _ _)
   | (with_reducible exact impl_RangesCut.mono _ _ _ _)
   | (with_reducible exact impl_RangesOf.mono _ _)
   | (with_reducible exact impl_RangesSize.mono _ _)
   | (with_reducible exact laws_rangeAwake.mono _)
   | (with_reducible exact spec_RangesIn.mono _ _)
   | (with_reducible exact LeO.refl _)
   | (with_reducible exact LeO.none _)
   | (with_reducible refine LeO.ite ?_ ?_)
   | (with_reducible refine LeO.bind ?_ (fun _ => ?_))
   | exact ih0 _ _ _
   | exact ih1 _ _ _
   | exact ih2 _ _ _ _ _ _
   | exact ih3 _ _ _ _ _ _ _ _ _
   | exact impl_RangesCut.mono _ _ _ _
   | exact impl_RangesOf.mono _ _
   | exact impl_RangesSize.mono _ _
   | exact laws_rangeAwake.mono _
   | exact spec_RangesIn.mono _ _
   | exact LeO.none _
   | refine LeO.ite ?_ ?_
   | refine LeO.bind ?_ (fun _ => ?_)
set_option maxHeartbeats 8000000 in
set_option maxRecDepth 100000 in
theorem laws_FnRangesTwo.calls (k : Nat) (A0 : Option Addr) (c0 : Nat) (l0 : List (S24)) (A1 : Option Addr) (c1 : Nat) (l1 : List (S24)) (r : Bool) (w : World) (hr0 : Kd.C k24 w A0 l0.length l0) (hc0 : l0.length ≤ c0) (hr1 : Kd.C k24 w A1 l1.length l1) (hc1 : l1.length ≤ c1) (h : laws_FnRangesTwo.f k l0 l1 = some r) :
  Calls Try.prog 9 #[.slice A0 l0.length c0, .slice A1 l1.length c1] w fun e w' => e = .returned (.bool r) ∧ Below w.heap.size w w' := by
 have hu24 := Try.underlying24
 have HR0 := Aside0.mk hr0
 have HC0 := Aside0.mk hc0
 clear hr0 hc0
 have HR1 := Aside0.mk hr1
 have HC1 := Aside0.mk hc1
 clear hr1 hc1
 have HB := Aside0.mk (Below.refl w.heap.size w)
 have H : (if (l0.length : Int) > 2147483647 then (laws_FnRangesTwo.j0 k l0 l1 true) else (laws_FnRangesTwo.j0 k l0 l1 (decide ((l1.length : Int) > 2147483647)))) = some r := h
 clear h
 have HC3 := Aside0.mk H
 clear H
 go_enter Try.func9, Try.ntmps9
 go_upto_region 1 with (fail)
 go_cut [17] (fun v17 wc => ∃ (kq : Nat) (x17_2 : Bool), v17 = .bool x17_2 ∧ Aside0 (laws_FnRangesTwo.j0 kq l0 l1 x17_2 = some r) ∧ Aside0 (kq ≤ k) ∧ Aside0 (Below w.heap.size w wc))
 case first =>
  have H := HC3.out
  clear HC3
  by_cases c4 : (l0.length : Int) > 2147483647
  ·rw [if_pos c4] at H
   have c4b0 : decide (2147483647 < (l0.length : Int)) = true := decide_eq_true c4
   have c4b1 : decide (2147483647 < l0.length) = true := decide_eq_true (by omega)
   clear c4
   (first | rw [c4b0] | (simp only [i64_w, i32_w]; rw [c4b0]) | skip)
   have H' := Aside0.mk H
   clear H
   go_wp2
   go_meet
   case rel => exact ⟨_, (true), (by first | rfl | (simp; done) | (simp [*]; done)), H', ⟨by first | omega | exact Nat.le_refl _⟩, ⟨by repeat (first | (with_reducible first | exact HB.out | apply below_alloc | apply pw_below_drewN | apply below_drew1) | exact HB.out)⟩⟩
  ·rw [if_neg c4] at H
   have c4b0 : decide (2147483647 < (l0.length : Int)) = false := decide_eq_false c4
   have c4b1 : decide (2147483647 < l0.length) = false := decide_eq_false (by omega)
   clear c4
   (first | rw [c4b0] | (simp only [i64_w, i32_w]; rw [c4b0]) | skip)
   have H' := Aside0.mk H
   clear H
   go_wp2
   go_meet
   case rel => exact ⟨_, (decide ((l1.length : Int) > 2147483647)), (by first | rfl | (simp; done) | (simp [*]; done)), H', ⟨by first | omega | exact Nat.le_refl _⟩, ⟨by repeat (first | (with_reducible first | exact HB.out | apply below_alloc | apply pw_below_drewN | apply below_drew1) | exact HB.out)⟩⟩
 case rest =>
  clear HC3
  try clear c1
  try clear p2
  try clear c4
  try clear c4b0
  try clear c4b1
  obtain ⟨kq, x17_2, rfl, HA, HJ2, HB⟩ := hcut
  cases kq with
  | zero => exact absurd HA.out (by simp [laws_FnRangesTwo.j0])
  | succ kj2 =>
   have H := HA.out
   clear HA
   simp only [laws_FnRangesTwo.j0] at H
   by_cases c5 : x17_2 = true
   ·subst c5
    have H1 : (some true) = some r := by rw [if_pos rfl] at H; exact H
    clear H
    have H := H1
    clear H1
    obtain rfl := Option.some.inj H
    go_wp2
    go_ret
    exact ⟨by first | rfl | (simp [errW_none, errW_some] <;> rfl) | (simp [*, errW_none, errW_some] <;> rfl), by repeat (first | (with_reducible first | exact HB.out | apply below_alloc | apply pw_below_drewN | apply below_drew1) | exact HB.out)⟩
   ·replace c5 := Bool.eq_false_iff.mpr c5
    subst c5
    have H1 : ((spec_RangesIn.f kj2 l0).bind fun t157 => (if t157 = true then ((spec_RangesIn.f kj2 l1).bind fun t158 => (if t158 = true then (laws_FnRangesTwo.j1 kj2 l0 l1 (decide ((wrap64 ((l0.length : Int) + (l1.length : Int))) > 60))) else (laws_FnRangesTwo.j1 kj2 l0 l1 true))) else (laws_FnRangesTwo.j1 kj2 l0 l1 true))) = some r := by rw [if_neg (show ¬ (false = true) by decide)] at H; exact H
    clear H
    have H := H1
    clear H1
    have HC6 := Aside0.mk H
    clear H
    go_upto_region 3 with (fail)
    go_cut [33] (fun v33 wc => ∃ (kq : Nat) (x33_5 : Bool), v33 = .bool x33_5 ∧ Aside0 (laws_FnRangesTwo.j1 kq l0 l1 x33_5 = some r) ∧ Aside0 (kq ≤ kj2) ∧ Aside0 (Below w.heap.size w wc))
    case first =>
     have H := HC6.out
     clear HC6
     replace H := Option.bind_eq_some_iff.mp H
     obtain ⟨t157, A70, H⟩ := H
     replace H : (if t157 = true then ((spec_RangesIn.f kj2 l1).bind fun t158 => (if t158 = true then (laws_FnRangesTwo.j1 kj2 l0 l1 (decide ((wrap64 ((l0.length : Int) + (l1.length : Int))) > 60))) else (laws_FnRangesTwo.j1 kj2 l0 l1 true))) else (laws_FnRangesTwo.j1 kj2 l0 l1 true)) = some r := H
     have A7 := Aside0.mk A70
     clear A70
     by_cases c8 : t157 = true
     ·subst c8
      have H1 : ((spec_RangesIn.f kj2 l1).bind fun t158 => (if t158 = true then (laws_FnRangesTwo.j1 kj2 l0 l1 (decide ((wrap64 ((l0.length : Int) + (l1.length : Int))) > 60))) else (laws_FnRangesTwo.j1 kj2 l0 l1 true))) = some r := by rw [if_pos rfl] at H; exact H
      clear H
      have H := H1
      clear H1
      replace H := Option.bind_eq_some_iff.mp H
      obtain ⟨t158, A90, H⟩ := H
      replace H : (if t158 = true then (laws_FnRangesTwo.j1 kj2 l0 l1 (decide ((wrap64 ((l0.length : Int) + (l1.length : Int))) > 60))) else (laws_FnRangesTwo.j1 kj2 l0 l1 true)) = some r := H
      have A9 := Aside0.mk A90
      clear A90
      by_cases c10 : t158 = true
      ·subst c10
       have H1 : (laws_FnRangesTwo.j1 kj2 l0 l1 (decide ((wrap64 ((l0.length : Int) + (l1.length : Int))) > 60))) = some r := by rw [if_pos rfl] at H; exact H
       clear H
       have H := H1
       clear H1
       have H' := Aside0.mk H
       clear H
       go_wp2_with (first | ((with_reducible refine gate_dst (N := 19) rfl ?_); refine goesL_ (some 19) rfl rfl Try.func11 (by kernel_rfl) rfl #[.slice A0 l0.length c0] rfl (by (try simp only [List.map_toArray, List.map_cons, List.map_nil]); first | done | rfl | (simp only [List.length_drop, List.length_take]; rfl)) ?_; (with_reducible refine (spec_RangesIn.calls kj2 _ _ l0 true _ ?side1 ?side2 A7.out).mono ?_); (case side1 => repeat (first | exact (Kd.C_below HR0.out HB.out) | (with_reducible refine Kd.C_alloc ?_ _) | (with_reducible refine Kd.C_drewN ?_ _) | (with_reducible refine Kd.C_drew ?_))); (case side2 => exact HC0.out); rintro e w11 ⟨rfl, hb⟩; refine ⟨_, rfl, ?_⟩; have n0_ := Aside0.mk (below_step (by repeat (first | (with_reducible first | exact HB.out | apply below_alloc | apply pw_below_drewN | apply below_drew1) | exact HB.out)) hb); clear HB; have HB := n0_; clear n0_; (try clear hb); (try clear hb2); (try clear hk); (try clear hi)) | (go_at_call 11; (with_reducible refine (spec_RangesIn.calls kj2 _ _ l1 true _ ?side1 ?side2 A9.out).mono ?_); (case side1 => repeat (first | exact (Kd.C_below HR1.out HB.out) | (with_reducible refine Kd.C_alloc ?_ _) | (with_reducible refine Kd.C_drewN ?_ _) | (with_reducible refine Kd.C_drew ?_))); (case side2 => exact HC1.out); rintro e w12 ⟨rfl, hb⟩; have n0_ := Aside0.mk (below_step (by repeat (first | (with_reducible first | exact HB.out | apply below_alloc | apply pw_below_drewN | apply below_drew1) | exact HB.out)) hb); clear HB; have HB := n0_; clear n0_; (try clear hb); (try clear hb2); (try clear hk); (try clear hi)))
       go_meet
       case rel => exact ⟨_, (decide ((wrap64 ((l0.length : Int) + (l1.length : Int))) > 60)), (by first | rfl | (simp; done) | (simp [*]; done)), H', ⟨by have := HJ2.out; first | omega | exact Nat.le_refl _⟩, ⟨by repeat (first | (with_reducible first | exact HB.out | apply below_alloc | apply pw_below_drewN | apply below_drew1) | exact HB.out)⟩⟩
      ·replace c10 := Bool.eq_false_iff.mpr c10
       subst c10
       have H1 : (laws_FnRangesTwo.j1 kj2 l0 l1 true) = some r := by rw [if_neg (show ¬ (false = true) by decide)] at H; exact H
       clear H
       have H := H1
       clear H1
       have H' := Aside0.mk H
       clear H
       go_wp2_with (first | ((with_reducible refine gate_dst (N := 19) rfl ?_); refine goesL_ (some 19) rfl rfl Try.func11 (by kernel_rfl) rfl #[.slice A0 l0.length c0] rfl (by (try simp only [List.map_toArray, List.map_cons, List.map_nil]); first | done | rfl | (simp only [List.length_drop, List.length_take]; rfl)) ?_; (with_reducible refine (spec_RangesIn.calls kj2 _ _ l0 true _ ?side1 ?side2 A7.out).mono ?_); (case side1 => repeat (first | exact (Kd.C_below HR0.out HB.out) | (with_reducible refine Kd.C_alloc ?_ _) | (with_reducible refine Kd.C_drewN ?_ _) | (with_reducible refine Kd.C_drew ?_))); (case side2 => exact HC0.out); rintro e w13 ⟨rfl, hb⟩; refine ⟨_, rfl, ?_⟩; have n0_ := Aside0.mk (below_step (by repeat (first | (with_reducible first | exact HB.out | apply below_alloc | apply pw_below_drewN | apply below_drew1) | exact HB.out)) hb); clear HB; have HB := n0_; clear n0_; (try clear hb); (try clear hb2); (try clear hk); (try clear hi)) | (go_at_call 11; (with_reducible refine (spec_RangesIn.calls kj2 _ _ l1 false _ ?side1 ?side2 A9.out).mono ?_); (case side1 => repeat (first | exact (Kd.C_below HR1.out HB.out) | (with_reducible refine Kd.C_alloc ?_ _) | (with_reducible refine Kd.C_drewN ?_ _) | (with_reducible refine Kd.C_drew ?_))); (case side2 => exact HC1.out); rintro e w14 ⟨rfl, hb⟩; have n0_ := Aside0.mk (below_step (by repeat (first | (with_reducible first | exact HB.out | apply below_alloc | apply pw_below_drewN | apply below_drew1) | exact HB.out)) hb); clear HB; have HB := n0_; clear n0_; (try clear hb); (try clear hb2); (try clear hk); (try clear hi)))
       go_meet
       case rel => exact ⟨_, (true), (by first | rfl | (simp; done) | (simp [*]; done)), H', ⟨by have := HJ2.out; first | omega | exact Nat.le_refl _⟩, ⟨by repeat (first | (with_reducible first | exact HB.out | apply below_alloc | apply pw_below_drewN | apply below_drew1) | exact HB.out)⟩⟩
     ·replace c8 := Bool.eq_false_iff.mpr c8
      subst c8
      have H1 : (laws_FnRangesTwo.j1 kj2 l0 l1 true) = some r := by rw [if_neg (show ¬ (false = true) by decide)] at H; exact H
      clear H
      have H := H1
      clear H1
      have H' := Aside0.mk H
      clear H
      go_wp2_with (first | ((with_reducible refine gate_dst (N := 19) rfl ?_); refine goesL_ (some 19) rfl rfl Try.func11 (by kernel_rfl) rfl #[.slice A0 l0.length c0] rfl (by (try simp only [List.map_toArray, List.map_cons, List.map_nil]); first | done | rfl | (simp only [List.length_drop, List.length_take]; rfl)) ?_; (with_reducible refine (spec_RangesIn.calls kj2 _ _ l0 false _ ?side1 ?side2 A7.out).mono ?_); (case side1 => repeat (first | exact (Kd.C_below HR0.out HB.out) | (with_reducible refine Kd.C_alloc ?_ _) | (with_reducible refine Kd.C_drewN ?_ _) | (with_reducible refine Kd.C_drew ?_))); (case side2 => exact HC0.out); rintro e w15 ⟨rfl, hb⟩; refine ⟨_, rfl, ?_⟩; have n0_ := Aside0.mk (below_step (by repeat (first | (with_reducible first | exact HB.out | apply below_alloc | apply pw_below_drewN | apply below_drew1) | exact HB.out)) hb); clear HB; have HB := n0_; clear n0_; (try clear hb); (try clear hb2); (try clear hk); (try clear hi)))
      go_meet
      case rel => exact ⟨_, (true), (by first | rfl | (simp; done) | (simp [*]; done)), H', ⟨by have := HJ2.out; first | omega | exact Nat.le_refl _⟩, ⟨by repeat (first | (with_reducible first | exact HB.out | apply below_alloc | apply pw_below_drewN | apply below_drew1) | exact HB.out)⟩⟩
    case rest =>
     clear HC6
     try clear c1
     try clear p2
     try clear c4
     try clear c4b0
     try clear c4b1
     try clear c5
     try clear p6
     try clear c8
     try clear c9
     try clear c10
     try clear c11
     try clear p2
     obtain ⟨kq, x33_5, rfl, HA, HJ5, HB⟩ := hcut
     cases kq with
     | zero => exact absurd HA.out (by simp [laws_FnRangesTwo.j1])
     | succ kj5 =>
      have H := HA.out
      clear HA
      simp only [laws_FnRangesTwo.j1] at H
      by_cases c16 : x33_5 = true
      ·subst c16
       have H1 : (some true) = some r := by rw [if_pos rfl] at H; exact H
       clear H
       have H := H1
       clear H1
       obtain rfl := Option.some.inj H
       go_wp2
       go_ret
       exact ⟨by first | rfl | (simp [errW_none, errW_some] <;> rfl) | (simp [*, errW_none, errW_some] <;> rfl), by repeat (first | (with_reducible first | exact HB.out | apply below_alloc | apply pw_below_drewN | apply below_drew1) | exact HB.out)⟩
      ·replace c16 := Bool.eq_false_iff.mpr c16
       subst c16
       have H1 : ((laws_rangeAwake.f kj5).bind fun t159 => (if t159 = true then ((impl_RangesOf.f kj5 l1).bind fun t160 => (laws_FnRangesTwo.l0 kj5 l0 l1 0 t160 (t160.length : Int) 0)) else (some false))) = some r := by rw [if_neg (show ¬ (false = true) by decide)] at H; exact H
       clear H
       have H := H1
       clear H1
       replace H := Option.bind_eq_some_iff.mp H
       obtain ⟨t159, A170, H⟩ := H
       replace H : (if t159 = true then ((impl_RangesOf.f kj5 l1).bind fun t160 => (laws_FnRangesTwo.l0 kj5 l0 l1 0 t160 (t160.length : Int) 0)) else (some false)) = some r := H
       have A17 := Aside0.mk A170
       clear A170
       by_cases c18 : t159 = true
       ·subst c18
        have H1 : ((impl_RangesOf.f kj5 l1).bind fun t160 => (laws_FnRangesTwo.l0 kj5 l0 l1 0 t160 (t160.length : Int) 0)) = some r := by rw [if_pos rfl] at H; exact H
        clear H
        have H := H1
        clear H1
        replace H := Option.bind_eq_some_iff.mp H
        obtain ⟨t160, A190, H⟩ := H
        replace H : (laws_FnRangesTwo.l0 kj5 l0 l1 0 t160 (t160.length : Int) 0) = some r := H
        have A19 := Aside0.mk A190
        clear A190
        have H' := Aside0.mk H
        clear H
        go_wp2_with (first | ((with_reducible refine gate_dst (N := 34) rfl ?_); refine goesL_ (some 34) rfl rfl Try.func13 (by kernel_rfl) rfl #[] rfl (by (try simp only [List.map_toArray, List.map_cons, List.map_nil]); first | done | rfl | (simp only [List.length_drop, List.length_take]; rfl)) ?_; (with_reducible refine (laws_rangeAwake.calls kj5  true _ A17.out).mono ?_); rintro e w20 ⟨rfl, hb⟩; refine ⟨_, rfl, ?_⟩; have n0_ := Aside0.mk (below_step (by repeat (first | (with_reducible first | exact HB.out | apply below_alloc | apply pw_below_drewN | apply below_drew1) | exact HB.out)) hb); clear HB; have HB := n0_; clear n0_; (try clear hb); (try clear hb2); (try clear hk); (try clear hi)) | ((with_reducible refine gate_dst (N := 37) rfl ?_); refine goesL_ (some 37) rfl rfl Try.func28 (by kernel_rfl) rfl #[.slice A1 l1.length c1] rfl (by (try simp only [List.map_toArray, List.map_cons, List.map_nil]); first | done | rfl | (simp only [List.length_drop, List.length_take]; rfl)) ?_; (with_reducible refine (impl_RangesOf.calls kj5 _ _ l1 t160 _ ?side1 ?side2 A19.out).mono ?_); (case side1 => repeat (first | exact (Kd.C_below HR1.out HB.out) | (with_reducible refine Kd.C_alloc ?_ _) | (with_reducible refine Kd.C_drewN ?_ _) | (with_reducible refine Kd.C_drew ?_))); (case side2 => exact HC1.out); rintro e w21 ⟨v161, rfl, ho0, hb⟩; refine ⟨_, rfl, ?_⟩; have n0_ := Aside0.mk (Kd.R_lower ho0 (below_size (by repeat (first | (with_reducible first | exact HB.out | apply below_alloc | apply pw_below_drewN | apply below_drew1) | exact HB.out)))); have n1_ := Aside0.mk (below_step (by repeat (first | (with_reducible first | exact HB.out | apply below_alloc | apply pw_below_drewN | apply below_drew1) | exact HB.out)) hb); clear HB; have HO162 := n0_; have HB := n1_; clear n0_ n1_; (try clear hb); (try clear hb2); (try clear hk); (try clear hi); (try clear ho0); obtain ⟨Ao22, co22, eo22⟩ := Kd.R_slice HO162.out; subst eo22))
        go_loopg [5, 39] kj5 (fun kq v5 v39 w' => ∃ (x5_3 : Int) (x39_3 : Int), v5 = .int .i64 x5_3 ∧ v39 = .int .i64 x39_3 ∧ Aside0 (laws_FnRangesTwo.l0 kq l0 l1 x5_3 t160 (t160.length : Int) x39_3 = some r) ∧ Aside0 (kq ≤ kj5) ∧ Aside0 (Kd.R k24 24 w' w.heap.size (fun _ => True) (.slice Ao22 t160.length co22) t160) ∧ Aside0 (Below w.heap.size w w'))
        case atStart => exact ⟨(0), (0), (by first | rfl | (simp; done) | (simp [*]; done)), (by first | rfl | (simp; done) | (simp [*]; done)), H', ⟨Nat.le_refl _⟩, ⟨by (with_reducible repeat (first | apply Kd.R_alloc | apply Kd.R_drewN | apply Kd.R_drew)); exact HO162.out⟩, ⟨by repeat (first | (with_reducible first | exact HB.out | apply below_alloc | apply pw_below_drewN | apply below_drew1) | exact HB.out)⟩⟩
        case round =>
         clear H'
         try clear c1
         try clear c2
         try clear p2
         try clear c4
         try clear c4b0
         try clear c4b1
         try clear c5
         try clear p6
         try clear c8
         try clear c9
         try clear c10
         try clear c11
         try clear c13
         try clear c16
         try clear c18
         try clear p2
         try clear p6
         obtain ⟨x5_3, x39_3, rfl, rfl, HA, HK3, HO_37, HB⟩ := hrel
         cases gk with
         | zero => exact absurd HA.out (by simp [laws_FnRangesTwo.l0])
         | succ k3 =>
          have H := HA.out
          clear HA
          simp only [laws_FnRangesTwo.l0] at H
          by_cases c23 : x39_3 < (t160.length : Int)
          ·rw [if_pos c23] at H
           have c23b0 : decide (x39_3 < (t160.length : Int)) = true := decide_eq_true c23
           clear c23
           by_cases c24 : 0 ≤ x39_3
           ·rw [if_pos c24] at H
            have c24b0 : decide (0 ≤ x39_3) = true := decide_eq_true c24
            clear c24
            by_cases c25 : x39_3 < (t160.length : Int)
            ·rw [if_pos c25] at H
             have c25b0 : decide (x39_3 < (t160.length : Int)) = true := decide_eq_true c25
             clear c25
             replace H := Option.bind_eq_some_iff.mp H
             obtain ⟨t177, A260, H⟩ := H
             replace H : (laws_FnRangesTwo.l1 k3 l0 l1 x5_3 t160 (t160.length : Int) x39_3 t177 (t177.length : Int) 0) = some r := H
             have A26 := Aside0.mk A260
             clear A260
             have H' := Aside0.mk H
             clear H
             have p175 : 0 ≤ (x39_3 : Int) := of_decide_eq_true (by first | (with_reducible assumption) | assumption)
             have q175 : x39_3 < (t160.length : Int) := of_decide_eq_true (by first | (with_reducible assumption) | assumption)
             obtain ⟨ad175, e175, hx175_0, hx175_1⟩ := at_T24 (Kd.R_reads' HO_37.out).2.2 x39_3 p175 q175
             cases e175
             replace p175 := eq_true p175
             replace q175 := eq_true q175
             go_wp2_with (first | ((with_reducible refine gate_dst (N := 7) rfl ?_); (try (refine gate_guard (by rfl) ?_; dsimp only)); refine box_event ?hg (N := 7) ?hd (cs := #[.int .i64 0, .int .i64 0]) (t := 24) ?hr ?_; (case hd => rfl); (case hg => rfl); (case hr => first | (go_simp; done) | (go_simp; rfl)); intro gb176 hg w27 hbox hb; have n0_ := Aside0.mk (Kd.R_below (Kd.R_elderB (by (with_reducible repeat (first | apply Kd.R_alloc | apply Kd.R_drewN | apply Kd.R_drew)); exact HO_37.out) gb176 (Nat.le_of_eq hg.symm)) hb); have n1_ := Aside0.mk (below_step (by repeat (first | (with_reducible first | exact HB.out | apply below_alloc | apply pw_below_drewN | apply below_drew1) | exact HB.out)) hb); have n2_ := Aside0.mk (hbox); have n3_ := Aside0.mk ((by rw [hg]; exact (below_size (by repeat (first | (with_reducible first | exact HB.out | apply below_alloc | apply pw_below_drewN | apply below_drew1) | exact HB.out))) : w.heap.size ≤ gb176)); have n4_ := Aside0.mk ((by rw [hg]; exact (below_size (by repeat (first | (with_reducible first | exact HB.out | apply below_alloc | apply pw_below_drewN | apply below_drew1) | exact HB.out))) : w.heap.size ≤ gb176)); clear HO_37; clear HB; have HO_37 := n0_; have HB := n1_; have BK176 := n2_; have GW176 := n3_; have GE176 := n4_; clear n0_ n1_ n2_ n3_ n4_; clear hb hbox hg; have hcz28_0 : w27.cell? ⟨gb176, 0, none⟩ = some (.int .i64 0) := (blk_cell BK176.out 0).trans rfl; have hcz28_1 : w27.cell? ⟨gb176, 1, none⟩ = some (.int .i64 0) := (blk_cell BK176.out 1).trans rfl; have hfz28_0 := blk_frozen BK176.out 0; have hfz28_1 := blk_frozen BK176.out 1) | ((with_reducible refine gate_dst (N := 45) rfl ?_); refine goesL_ (some 45) rfl rfl Try.func29 (by kernel_rfl) rfl #[.slice A0 l0.length c0, .agg #[.int .i64 ((rd_T24 t160 x39_3).f0), .int .i64 ((rd_T24 t160 x39_3).f1)]] rfl (by (try simp only [List.map_toArray, List.map_cons, List.map_nil]); first | done | rfl | (simp only [List.length_drop, List.length_take]; rfl)) ?_; (with_reducible refine (impl_RangesCut.calls k3 _ _ l0 ((rd_T24 t160 x39_3).f0) ((rd_T24 t160 x39_3).f1) t177 _ ?side1 ?side2 A26.out).mono ?_); (case side1 => exact Kd.C_below HR0.out (by repeat (first | (with_reducible first | exact HB.out | apply below_alloc | apply pw_below_drewN | apply below_drew1 | refine below_set ?_ GE176.out) | exact HB.out))); (case side2 => exact HC0.out); rintro e w29 ⟨v178, rfl, ho0, hb⟩; refine ⟨_, rfl, ?_⟩; have n0_ := Aside0.mk (Kd.R_elder' (by (with_reducible repeat (first | apply Kd.R_alloc | apply Kd.R_drewN | apply Kd.R_drew)); exact (Kd.R_mono (Kd.R_far (p := ⟨gb176, 1, none⟩) (Kd.R_far (p := ⟨gb176, 0, none⟩) (Kd.R_mono HO_37.out (fun k_ hk => (⟨hk, hk.2⟩ : _ ∧ k_ ≠ gb176))) (fun _ hk => hk.2) (.int .i64 ((rd_T24 t160 x39_3).f0))) (fun _ hk => hk.2) (.int .i64 ((rd_T24 t160 x39_3).f1))) (fun _ h_ => h_.1))) (Kd.R_base ho0) hb); have n1_ := Aside0.mk (Kd.R_lower (Kd.R_newB (Kd.R_new' ho0 (Kd.R_lt (by (with_reducible repeat (first | apply Kd.R_alloc | apply Kd.R_drewN | apply Kd.R_drew)); exact (Kd.R_mono (Kd.R_far (p := ⟨gb176, 1, none⟩) (Kd.R_far (p := ⟨gb176, 0, none⟩) (Kd.R_mono HO_37.out (fun k_ hk => (⟨hk, hk.2⟩ : _ ∧ k_ ≠ gb176))) (fun _ hk => hk.2) (.int .i64 ((rd_T24 t160 x39_3).f0))) (fun _ hk => hk.2) (.int .i64 ((rd_T24 t160 x39_3).f1))) (fun _ h_ => h_.1))))) (g := gb176) (o := .cells #[.int .i64 ((rd_T24 t160 x39_3).f0), .int .i64 ((rd_T24 t160 x39_3).f1)] 24 (0, 0)) (by (with_reducible repeat (first | refine blk_drewN ?_ _ | refine blk_drew ?_ | refine blk_alloc ?_ _)); refine blk_put (cs := #[.int .i64 ((rd_T24 t160 x39_3).f0), .int .i64 0]) ?_ 1 _ rfl; (with_reducible repeat (first | refine blk_drewN ?_ _ | refine blk_drew ?_ | refine blk_alloc ?_ _)); refine blk_put (cs := #[.int .i64 0, .int .i64 0]) ?_ 0 _ rfl; (with_reducible repeat (first | refine blk_drewN ?_ _ | refine blk_drew ?_ | refine blk_alloc ?_ _)); exact BK176.out)) (below_size (by repeat (first | (with_reducible first | exact HB.out | apply below_alloc | apply pw_below_drewN | apply below_drew1 | refine below_set ?_ GE176.out) | exact HB.out)))); have n2_ := Aside0.mk (blk_below (g := gb176) (o := .cells #[.int .i64 ((rd_T24 t160 x39_3).f0), .int .i64 ((rd_T24 t160 x39_3).f1)] 24 (0, 0)) (by (with_reducible repeat (first | refine blk_drewN ?_ _ | refine blk_drew ?_ | refine blk_alloc ?_ _)); refine blk_put (cs := #[.int .i64 ((rd_T24 t160 x39_3).f0), .int .i64 0]) ?_ 1 _ rfl; (with_reducible repeat (first | refine blk_drewN ?_ _ | refine blk_drew ?_ | refine blk_alloc ?_ _)); refine blk_put (cs := #[.int .i64 0, .int .i64 0]) ?_ 0 _ rfl; (with_reducible repeat (first | refine blk_drewN ?_ _ | refine blk_drew ?_ | refine blk_alloc ?_ _)); exact BK176.out) hb); have n3_ := Aside0.mk (below_step (by repeat (first | (with_reducible first | exact HB.out | apply below_alloc | apply pw_below_drewN | apply below_drew1 | refine below_set ?_ GE176.out) | exact HB.out)) hb); clear HO_37; clear BK176; clear HB; have HO_37 := n0_; have HO179 := n1_; have BK176 := n2_; have HB := n3_; clear n0_ n1_ n2_ n3_; (try clear hb); (try clear hb2); (try clear hk); (try clear hi); (try clear ho0); obtain ⟨Ao30, co30, eo30⟩ := Kd.R_slice HO179.out; subst eo30))
             go_loopg [5, 47] k3 (fun kq v5 v47 w' => ∃ (x5_4 : Int) (x47_4 : Int), v5 = .int .i64 x5_4 ∧ v47 = .int .i64 x47_4 ∧ Aside0 (laws_FnRangesTwo.l1 kq l0 l1 x5_4 t160 (t160.length : Int) x39_3 t177 (t177.length : Int) x47_4 = some r) ∧ Aside0 (kq ≤ k3) ∧ Aside0 (Kd.R k24 24 w' w.heap.size (fun k_ => some k_ ≠ ((.slice Ao30 t177.length co30) : Value).ownBlock ∧ k_ ≠ gb176) (.slice (some ad175) t160.length co22) t160) ∧ Aside0 (Kd.R k24 24 w' w.heap.size (fun k_ => some k_ ≠ ((.slice (some ad175) t160.length co22) : Value).ownBlock ∧ k_ ≠ gb176) (.slice Ao30 t177.length co30) t177) ∧ Aside0 (w'.heap[gb176]? = some (.cells #[.int .i64 ((rd_T24 t160 x39_3).f0), .int .i64 ((rd_T24 t160 x39_3).f1)] 24 (0, 0))) ∧ Aside0 (Below w.heap.size w w'))
             case atStart => exact ⟨(x5_3), (0), (by first | rfl | (simp; done) | (simp [*]; done)), (by first | rfl | (simp; done) | (simp [*]; done)), H', ⟨Nat.le_refl _⟩, ⟨by (with_reducible repeat (first | apply Kd.R_alloc | apply Kd.R_drewN | apply Kd.R_drew)); exact Kd.R_mono HO_37.out (fun _ hk => ⟨hk.2, hk.1.2⟩)⟩, ⟨by (with_reducible repeat (first | apply Kd.R_alloc | apply Kd.R_drewN | apply Kd.R_drew)); exact Kd.R_mono HO179.out (fun _ hk => ⟨hk.1.2, hk.2⟩)⟩, ⟨by (with_reducible repeat (first | refine blk_drewN ?_ _ | refine blk_drew ?_ | refine blk_alloc ?_ _)); exact BK176.out⟩, ⟨by repeat (first | (with_reducible first | exact HB.out | apply below_alloc | apply pw_below_drewN | apply below_drew1 | refine below_set ?_ GE176.out) | exact HB.out)⟩⟩
             case round =>
              clear H'
              try clear c1
              try clear p1
              try clear q1
              try clear hx1
              try clear c2
              try clear p2
              try clear c4
              try clear c4b0
              try clear c4b1
              try clear c5
              try clear p6
              try clear c8
              try clear c9
              try clear c10
              try clear c11
              try clear c13
              try clear c16
              try clear p17
              try clear q17
              try clear hx17
              try clear c18
              try clear c23
              try clear c23b0
              try clear c24
              try clear c24b0
              try clear c25
              try clear c25b0
              try clear c28
              try clear c29
              try clear hcz28_0
              try clear hcz28_1
              try clear hfz28_0
              try clear hfz28_1
              try clear hx175_0
              try clear hx175_1
              try clear p175
              try clear p2
              try clear p6
              try clear q175
              obtain ⟨x5_4, x47_4, rfl, rfl, HA, HK4, HO_37, HO_45, BK176, HB⟩ := hrel
              cases gk with
              | zero => exact absurd HA.out (by simp [laws_FnRangesTwo.l1])
              | succ k4 =>
               have H := HA.out
               clear HA
               simp only [laws_FnRangesTwo.l1] at H
               by_cases c31 : x47_4 < (t177.length : Int)
               ·rw [if_pos c31] at H
                have c31b0 : decide (x47_4 < (t177.length : Int)) = true := decide_eq_true c31
                clear c31
                by_cases c32 : 0 ≤ x47_4
                ·rw [if_pos c32] at H
                 have c32b0 : decide (0 ≤ x47_4) = true := decide_eq_true c32
                 clear c32
                 by_cases c33 : x47_4 < (t177.length : Int)
                 ·rw [if_pos c33] at H
                  have c33b0 : decide (x47_4 < (t177.length : Int)) = true := decide_eq_true c33
                  clear c33
                  have H' := Aside0.mk H
                  clear H
                  have p180 : 0 ≤ (x47_4 : Int) := of_decide_eq_true (by first | (with_reducible assumption) | assumption)
                  have q180 : x47_4 < (t177.length : Int) := of_decide_eq_true (by first | (with_reducible assumption) | assumption)
                  obtain ⟨ad180, e180, hx180_0, hx180_1⟩ := at_T24 (Kd.R_reads' HO_45.out).2.2 x47_4 p180 q180
                  cases e180
                  replace p180 := eq_true p180
                  replace q180 := eq_true q180
                  go_wp2_with (first | ((with_reducible refine gate_dst (N := 9) rfl ?_); (try (refine gate_guard (by rfl) ?_; dsimp only)); refine box_event ?hg (N := 9) ?hd (cs := #[.int .i64 0, .int .i64 0]) (t := 24) ?hr ?_; (case hd => rfl); (case hg => rfl); (case hr => first | (go_simp; done) | (go_simp; rfl)); intro gb181 hg w34 hbox hb; have n0_ := Aside0.mk (Kd.R_below (Kd.R_elderB (by (with_reducible repeat (first | apply Kd.R_alloc | apply Kd.R_drewN | apply Kd.R_drew)); exact HO_37.out) gb181 (Nat.le_of_eq hg.symm)) hb); have n1_ := Aside0.mk (Kd.R_below (Kd.R_elderB (by (with_reducible repeat (first | apply Kd.R_alloc | apply Kd.R_drewN | apply Kd.R_drew)); exact HO_45.out) gb181 (Nat.le_of_eq hg.symm)) hb); have n2_ := Aside0.mk (blk_below (g := gb176) (o := .cells #[.int .i64 ((rd_T24 t160 x39_3).f0), .int .i64 ((rd_T24 t160 x39_3).f1)] 24 (0, 0)) (by (with_reducible repeat (first | refine blk_drewN ?_ _ | refine blk_drew ?_ | refine blk_alloc ?_ _)); exact BK176.out) hb); have n3_ := Aside0.mk (below_step (by repeat (first | (with_reducible first | exact HB.out | apply below_alloc | apply pw_below_drewN | apply below_drew1 | refine below_set ?_ GE176.out) | exact HB.out)) hb); have n4_ := Aside0.mk (hbox); have n5_ := Aside0.mk ((by rw [hg]; exact (below_size (by repeat (first | (with_reducible first | exact HB.out | apply below_alloc | apply pw_below_drewN | apply below_drew1 | refine below_set ?_ GE176.out) | exact HB.out))) : w.heap.size ≤ gb181)); have n6_ := Aside0.mk ((by rw [hg]; exact (below_size (by repeat (first | (with_reducible first | exact HB.out | apply below_alloc | apply pw_below_drewN | apply below_drew1 | refine below_set ?_ GE176.out) | exact HB.out))) : w.heap.size ≤ gb181)); have n7_ := Aside0.mk ((by rw [hg]; exact Nat.ne_of_lt (blk_lt (g := gb176) (o := .cells #[.int .i64 ((rd_T24 t160 x39_3).f0), .int .i64 ((rd_T24 t160 x39_3).f1)] 24 (0, 0)) (by (with_reducible repeat (first | refine blk_drewN ?_ _ | refine blk_drew ?_ | refine blk_alloc ?_ _)); exact BK176.out)) : gb176 ≠ gb181)); have n8_ := Aside0.mk ((by rw [hg]; exact Nat.ne_of_gt (blk_lt (g := gb176) (o := .cells #[.int .i64 ((rd_T24 t160 x39_3).f0), .int .i64 ((rd_T24 t160 x39_3).f1)] 24 (0, 0)) (by (with_reducible repeat (first | refine blk_drewN ?_ _ | refine blk_drew ?_ | refine blk_alloc ?_ _)); exact BK176.out)) : gb181 ≠ gb176)); clear HO_37; clear HO_45; clear BK176; clear HB; have HO_37 := n0_; have HO_45 := n1_; have BK176 := n2_; have HB := n3_; have BK181 := n4_; have GW181 := n5_; have GE181 := n6_; have NB176_181 := n7_; have NB181_176 := n8_; clear n0_ n1_ n2_ n3_ n4_ n5_ n6_ n7_ n8_; clear hb hbox hg; have hnb35 := NB181_176.out; have hnc35 := NB176_181.out; have hcz36_0 : w34.cell? ⟨gb181, 0, none⟩ = some (.int .i64 0) := (blk_cell BK181.out 0).trans rfl; have hcz36_1 : w34.cell? ⟨gb181, 1, none⟩ = some (.int .i64 0) := (blk_cell BK181.out 1).trans rfl; have hfz36_0 := blk_frozen BK181.out 0; have hfz36_1 := blk_frozen BK181.out 1))
                  go_roundg k4
                  case measure => have := HJ2.out; have := HJ5.out; have := HK3.out; have := HK4.out; omega
                  case rel => exact ⟨(wrap64 (x5_4 + ((rd_T24 t177 x47_4).f1))), (wrap64 (x47_4 + 1)), (by first | rfl | (simp; done) | (simp [*]; done)), (by first | rfl | (simp; done) | (simp [*]; done)), H', ⟨by have := HJ2.out; have := HJ5.out; have := HK3.out; have := HK4.out; omega⟩, ⟨by (with_reducible repeat (first | apply Kd.R_alloc | apply Kd.R_drewN | apply Kd.R_drew)); exact Kd.R_mono (Kd.R_far (p := ⟨gb181, 1, none⟩) (Kd.R_far (p := ⟨gb181, 0, none⟩) (Kd.R_mono HO_37.out (fun k_ hk => (⟨hk, hk.2⟩ : _ ∧ k_ ≠ gb181))) (fun _ hk => hk.2) (.int .i64 ((rd_T24 t177 x47_4).f0))) (fun _ hk => hk.2) (.int .i64 ((rd_T24 t177 x47_4).f1))) (fun _ hk => ⟨hk.1.1.1, hk.1.1.2⟩)⟩, ⟨by (with_reducible repeat (first | apply Kd.R_alloc | apply Kd.R_drewN | apply Kd.R_drew)); exact Kd.R_mono (Kd.R_far (p := ⟨gb181, 1, none⟩) (Kd.R_far (p := ⟨gb181, 0, none⟩) (Kd.R_mono HO_45.out (fun k_ hk => (⟨hk, hk.2⟩ : _ ∧ k_ ≠ gb181))) (fun _ hk => hk.2) (.int .i64 ((rd_T24 t177 x47_4).f0))) (fun _ hk => hk.2) (.int .i64 ((rd_T24 t177 x47_4).f1))) (fun _ hk => ⟨hk.1.1.1, hk.1.1.2⟩)⟩, ⟨by (with_reducible repeat (first | refine blk_drewN ?_ _ | refine blk_drew ?_ | refine blk_alloc ?_ _)); refine blk_far ?_ NB176_181.out _; (with_reducible repeat (first | refine blk_drewN ?_ _ | refine blk_drew ?_ | refine blk_alloc ?_ _)); refine blk_far ?_ NB176_181.out _; (with_reducible repeat (first | refine blk_drewN ?_ _ | refine blk_drew ?_ | refine blk_alloc ?_ _)); exact BK176.out⟩, ⟨by repeat (first | (with_reducible first | exact HB.out | apply below_alloc | apply pw_below_drewN | apply below_drew1 | refine below_set ?_ GE176.out | refine below_set ?_ GE181.out) | exact HB.out)⟩⟩
                 ·rw [if_neg c33] at H
                  exact absurd H (by simp)
                ·rw [if_neg c32] at H
                 exact absurd H (by simp)
               ·rw [if_neg c31] at H
                have c31b0 : decide (x47_4 < (t177.length : Int)) = false := decide_eq_false c31
                clear c31
                have H' := Aside0.mk H
                clear H
                go_wp2
                go_roundg k4
                case measure => have := HJ2.out; have := HJ5.out; have := HK3.out; have := HK4.out; omega
                case rel => exact ⟨(x5_4), (wrap64 (x39_3 + 1)), (by first | rfl | (simp; done) | (simp [*]; done)), (by first | rfl | (simp; done) | (simp [*]; done)), H', ⟨by have := HJ2.out; have := HJ5.out; have := HK3.out; have := HK4.out; omega⟩, ⟨by (with_reducible repeat (first | apply Kd.R_alloc | apply Kd.R_drewN | apply Kd.R_drew)); exact Kd.R_mono HO_37.out (fun _ hk => trivial)⟩, ⟨by repeat (first | (with_reducible first | exact HB.out | apply below_alloc | apply pw_below_drewN | apply below_drew1 | refine below_set ?_ GE176.out) | exact HB.out)⟩⟩
            ·rw [if_neg c25] at H
             exact absurd H (by simp)
           ·rw [if_neg c24] at H
            exact absurd H (by simp)
          ·rw [if_neg c23] at H
           have c23b0 : decide (x39_3 < (t160.length : Int)) = false := decide_eq_false c23
           clear c23
           obtain ⟨y163, hy163⟩ : ∃ y_ : List (S24), y_ = (([] : List (S24))) := ⟨_, rfl⟩
           replace H : (if y163.length + l0.length < 8796093022208 then ((some (y163 ++ l0 : List (S24))).bind fun y166 => (if y166.length + l1.length < 8796093022208 then ((impl_RangesSize.f k3 (y166 ++ l1)).bind fun t172 => ((impl_RangesSize.f k3 l0).bind fun t173 => ((impl_RangesSize.f k3 l1).bind fun t174 => (some (t172 == (wrap64 ((wrap64 (t173 + t174)) - x5_3))))))) else (none))) else (none)) = some r := by first | (rw [hy163]; with_reducible exact H) | (have H2_ := (Option.bind_some _ _).symm.trans H; rw [hy163]; with_reducible exact H2_) | (have H2_ := (Option.bind_some _ _).symm.trans H; with_reducible exact H2_) | with_reducible exact H | (rw [hy163]; exact H) | exact H
           have Ny163 := Aside0.mk hy163
           clear hy163
           by_cases c37 : y163.length + l0.length < 8796093022208
           ·rw [if_pos c37] at H
            have LMc37 := Aside0.mk c37
            clear c37
            obtain ⟨y166, hy166⟩ : ∃ y_ : List (S24), y_ = (y163 ++ l0) := ⟨_, rfl⟩
            replace H : (if y166.length + l1.length < 8796093022208 then ((impl_RangesSize.f k3 (y166 ++ l1)).bind fun t172 => ((impl_RangesSize.f k3 l0).bind fun t173 => ((impl_RangesSize.f k3 l1).bind fun t174 => (some (t172 == (wrap64 ((wrap64 (t173 + t174)) - x5_3))))))) else (none)) = some r := by first | (rw [hy166]; with_reducible exact H) | (have H2_ := (Option.bind_some _ _).symm.trans H; rw [hy166]; with_reducible exact H2_) | (have H2_ := (Option.bind_some _ _).symm.trans H; with_reducible exact H2_) | with_reducible exact H | (rw [hy166]; exact H) | exact H
            have Ny166 := Aside0.mk hy166
            clear hy166
            by_cases c38 : y166.length + l1.length < 8796093022208
            ·rw [if_pos c38] at H
             have LMc38 := Aside0.mk c38
             clear c38
             obtain ⟨y169, hy169⟩ : ∃ y_ : List (S24), y_ = (y166 ++ l1) := ⟨_, rfl⟩
             replace H : ((impl_RangesSize.f k3 y169).bind fun t172 => ((impl_RangesSize.f k3 l0).bind fun t173 => ((impl_RangesSize.f k3 l1).bind fun t174 => (some (t172 == (wrap64 ((wrap64 (t173 + t174)) - x5_3))))))) = some r := by first | (rw [hy169]; with_reducible exact H) | (have H2_ := (Option.bind_some _ _).symm.trans H; rw [hy169]; with_reducible exact H2_) | (have H2_ := (Option.bind_some _ _).symm.trans H; with_reducible exact H2_) | with_reducible exact H | (rw [hy169]; exact H) | exact H
             have Ny169 := Aside0.mk hy169
             clear hy169
             replace H := Option.bind_eq_some_iff.mp H
             obtain ⟨t172, A390, H⟩ := H
             replace H : ((impl_RangesSize.f k3 l0).bind fun t173 => ((impl_RangesSize.f k3 l1).bind fun t174 => (some (t172 == (wrap64 ((wrap64 (t173 + t174)) - x5_3)))))) = some r := H
             have A39 := Aside0.mk A390
             clear A390
             replace H := Option.bind_eq_some_iff.mp H
             obtain ⟨t173, A400, H⟩ := H
             replace H : ((impl_RangesSize.f k3 l1).bind fun t174 => (some (t172 == (wrap64 ((wrap64 (t173 + t174)) - x5_3))))) = some r := H
             have A40 := Aside0.mk A400
             clear A400
             replace H := Option.bind_eq_some_iff.mp H
             obtain ⟨t174, A410, H⟩ := H
             replace H : (some (t172 == (wrap64 ((wrap64 (t173 + t174)) - x5_3)))) = some r := H
             have A41 := Aside0.mk A410
             clear A410
             obtain rfl := Option.some.inj H
             go_wp2_with (first | ((with_reducible refine gate_dst (N := 57) rfl ?_); (try (refine gate_guard (by rfl) ?_; dsimp only)); refine Kd.R_lit k24 _ 24 ?hg (N := 57) ?hd (xs := ([] : List (S24))) (inner := []) (ok := fun _ => True) (okp := fun _ => True) ?hr ?hp (fun _ hk => hk) trivial (Below.refl _ _) (Nat.le_refl _) (by simp) ?_; (case hd => rfl); (case hg => rfl); (case hr => first | (go_simp; done) | (go_simp; rfl)); (case hp => exact (Reps.none _ _)); intro v164 w42 ho43 hb hg_ hnew_; clear hg_ hnew_; (first | rw [← Ny163.out] at ho43 | (simp only [Int.reduceToNat] at ho43; rw [← Ny163.out] at ho43)); have n0_ := Aside0.mk (Kd.R_elder' (by (with_reducible repeat (first | apply Kd.R_alloc | apply Kd.R_drewN | apply Kd.R_drew)); exact HO_37.out) (Kd.R_base ho43) hb); have n1_ := Aside0.mk (Kd.R_lower (Kd.R_new' ho43 (Kd.R_lt (by (with_reducible repeat (first | apply Kd.R_alloc | apply Kd.R_drewN | apply Kd.R_drew)); exact HO_37.out))) (below_size (by repeat (first | (with_reducible first | exact HB.out | apply below_alloc | apply pw_below_drewN | apply below_drew1) | exact HB.out)))); have n2_ := Aside0.mk (below_step (by repeat (first | (with_reducible first | exact HB.out | apply below_alloc | apply pw_below_drewN | apply below_drew1) | exact HB.out)) hb); clear HO_37; clear HB; have HO_37 := n0_; have HO165 := n1_; have HB := n2_; clear n0_ n1_ n2_; clear hb ho43) | ((try (refine gate_guard (by rfl) ?_; dsimp only)); at_builtin; refine Kd.R_append_rows k24 (w0 := w) w.heap.size rfl (.tmp 57) (.tmp 58) 22 24 (.agg #[(.int .i64 0), (.int .i64 0)]) 16 rfl Try.underlying22 info24 rfl (by decide) (by omega) v164 y163 l0 _ _ _ (fun k_ => some k_ ≠ (.slice Ao22 t160.length co22 : Value).ownBlock) (fun _ => False) rfl rfl ?aO ?aR (fun _ _ h => h) (fun _ h => h.elim) ?aF ?aB ?aS ?aL ?_; (case aR => repeat (first | exact (Kd.C_below HR0.out HB.out) | (with_reducible refine Kd.C_alloc ?_ _) | (with_reducible refine Kd.C_drewN ?_ _) | (with_reducible refine Kd.C_drew ?_))); (case aB => exact (by repeat (first | (with_reducible first | exact HB.out | apply below_alloc | apply pw_below_drewN | apply below_drew1) | exact HB.out))); (case aF => exact (fun k_ hk => Kd.fresh' (Kd.R_lt (by (with_reducible repeat (first | apply Kd.R_alloc | apply Kd.R_drewN | apply Kd.R_drew)); exact HO_37.out)) k_ hk)); (case aO => exact (by (with_reducible repeat (first | apply Kd.R_alloc | apply Kd.R_drewN | apply Kd.R_drew)); exact Kd.R_mono HO165.out (fun _ hk => hk.2))); (case aS => exact (below_size (by repeat (first | (with_reducible first | exact HB.out | apply below_alloc | apply pw_below_drewN | apply below_drew1) | exact HB.out)))); (case aL => have := LMc37.out; omega); intro v167 w44 ho hb hg hat; rw [← Ny166.out] at ho; have n0_ := Aside0.mk (Kd.R_after (ok := (fun _ => True)) (by (with_reducible repeat (first | apply Kd.R_alloc | apply Kd.R_drewN | apply Kd.R_drew)); exact HO_37.out) hg hat); have n1_ := Aside0.mk (hb); have n2_ := Aside0.mk (ho); clear HO_37; clear HB; clear HO165; have HO_37 := n0_; have HB := n1_; have HO168 := n2_; clear n0_ n1_ n2_; clear ho hb hg hat) | ((try (refine gate_guard (by rfl) ?_; dsimp only)); at_builtin; refine Kd.R_append_rows k24 (w0 := w) w.heap.size rfl (.tmp 59) (.tmp 60) 22 24 (.agg #[(.int .i64 0), (.int .i64 0)]) 16 rfl Try.underlying22 info24 rfl (by decide) (by omega) v167 y166 l1 _ _ _ (fun k_ => some k_ ≠ (.slice Ao22 t160.length co22 : Value).ownBlock) (fun _ => False) rfl rfl ?aO ?aR (fun _ _ h => h) (fun _ h => h.elim) ?aF ?aB ?aS ?aL ?_; (case aR => repeat (first | exact (Kd.C_below HR1.out HB.out) | (with_reducible refine Kd.C_alloc ?_ _) | (with_reducible refine Kd.C_drewN ?_ _) | (with_reducible refine Kd.C_drew ?_))); (case aB => exact (by repeat (first | (with_reducible first | exact HB.out | apply below_alloc | apply pw_below_drewN | apply below_drew1) | exact HB.out))); (case aF => exact (fun k_ hk => Kd.fresh' (Kd.R_lt (by (with_reducible repeat (first | apply Kd.R_alloc | apply Kd.R_drewN | apply Kd.R_drew)); exact HO_37.out)) k_ hk)); (case aO => exact (by (with_reducible repeat (first | apply Kd.R_alloc | apply Kd.R_drewN | apply Kd.R_drew)); exact HO168.out)); (case aS => exact (below_size (by repeat (first | (with_reducible first | exact HB.out | apply below_alloc | apply pw_below_drewN | apply below_drew1) | exact HB.out)))); (case aL => have := LMc38.out; omega); intro v170 w45 ho hb hg hat; rw [← Ny169.out] at ho; have n0_ := Aside0.mk (Kd.R_after (ok := (fun _ => True)) (by (with_reducible repeat (first | apply Kd.R_alloc | apply Kd.R_drewN | apply Kd.R_drew)); exact HO_37.out) hg hat); have n1_ := Aside0.mk (hb); have n2_ := Aside0.mk (ho); clear HO_37; clear HB; clear HO168; have HO_37 := n0_; have HB := n1_; have HO171 := n2_; clear n0_ n1_ n2_; clear ho hb hg hat; obtain ⟨Ao46, co46, eo46⟩ := Kd.R_slice HO171.out; subst eo46) | ((with_reducible refine gate_dst (N := 62) rfl ?_); refine goesL_ (some 62) rfl rfl Try.func18 (by kernel_rfl) rfl #[.slice Ao46 y169.length co46] rfl (by (try simp only [List.map_toArray, List.map_cons, List.map_nil]); first | done | rfl | (simp only [List.length_drop, List.length_take]; rfl)) ?_; (with_reducible refine (impl_RangesSize.calls k3 _ _ y169 t172 _ ?side1 ?side2 A39.out).mono ?_); (case side1 => repeat (first | exact (Kd.R_reads' HO171.out).2.2 | (with_reducible refine Kd.C_alloc ?_ _) | (with_reducible refine Kd.C_drewN ?_ _) | (with_reducible refine Kd.C_drew ?_))); (case side2 => exact (Kd.R_reads' HO171.out).2.1); rintro e w47 ⟨rfl, hb⟩; refine ⟨_, rfl, ?_⟩; have n0_ := Aside0.mk (Kd.R_below (by (with_reducible repeat (first | apply Kd.R_alloc | apply Kd.R_drewN | apply Kd.R_drew)); exact HO_37.out) hb); have n1_ := Aside0.mk (Kd.R_below (by (with_reducible repeat (first | apply Kd.R_alloc | apply Kd.R_drewN | apply Kd.R_drew)); exact HO171.out) hb); have n2_ := Aside0.mk (below_step (by repeat (first | (with_reducible first | exact HB.out | apply below_alloc | apply pw_below_drewN | apply below_drew1) | exact HB.out)) hb); clear HO_37; clear HO171; clear HB; have HO_37 := n0_; have HO171 := n1_; have HB := n2_; clear n0_ n1_ n2_; (try clear hb); (try clear hb2); (try clear hk); (try clear hi)) | ((with_reducible refine gate_dst (N := 64) rfl ?_); refine goesL_ (some 64) rfl rfl Try.func18 (by kernel_rfl) rfl #[.slice A0 l0.length c0] rfl (by (try simp only [List.map_toArray, List.map_cons, List.map_nil]); first | done | rfl | (simp only [List.length_drop, List.length_take]; rfl)) ?_; (with_reducible refine (impl_RangesSize.calls k3 _ _ l0 t173 _ ?side1 ?side2 A40.out).mono ?_); (case side1 => repeat (first | exact (Kd.C_below HR0.out HB.out) | (with_reducible refine Kd.C_alloc ?_ _) | (with_reducible refine Kd.C_drewN ?_ _) | (with_reducible refine Kd.C_drew ?_))); (case side2 => exact HC0.out); rintro e w48 ⟨rfl, hb⟩; refine ⟨_, rfl, ?_⟩; have n0_ := Aside0.mk (Kd.R_below (by (with_reducible repeat (first | apply Kd.R_alloc | apply Kd.R_drewN | apply Kd.R_drew)); exact HO_37.out) hb); have n1_ := Aside0.mk (Kd.R_below (by (with_reducible repeat (first | apply Kd.R_alloc | apply Kd.R_drewN | apply Kd.R_drew)); exact HO171.out) hb); have n2_ := Aside0.mk (below_step (by repeat (first | (with_reducible first | exact HB.out | apply below_alloc | apply pw_below_drewN | apply below_drew1) | exact HB.out)) hb); clear HO_37; clear HO171; clear HB; have HO_37 := n0_; have HO171 := n1_; have HB := n2_; clear n0_ n1_ n2_; (try clear hb); (try clear hb2); (try clear hk); (try clear hi)) | ((with_reducible refine gate_dst (N := 66) rfl ?_); refine goesL_ (some 66) rfl rfl Try.func18 (by kernel_rfl) rfl #[.slice A1 l1.length c1] rfl (by (try simp only [List.map_toArray, List.map_cons, List.map_nil]); first | done | rfl | (simp only [List.length_drop, List.length_take]; rfl)) ?_; (with_reducible refine (impl_RangesSize.calls k3 _ _ l1 t174 _ ?side1 ?side2 A41.out).mono ?_); (case side1 => repeat (first | exact (Kd.C_below HR1.out HB.out) | (with_reducible refine Kd.C_alloc ?_ _) | (with_reducible refine Kd.C_drewN ?_ _) | (with_reducible refine Kd.C_drew ?_))); (case side2 => exact HC1.out); rintro e w49 ⟨rfl, hb⟩; refine ⟨_, rfl, ?_⟩; have n0_ := Aside0.mk (Kd.R_below (by (with_reducible repeat (first | apply Kd.R_alloc | apply Kd.R_drewN | apply Kd.R_drew)); exact HO_37.out) hb); have n1_ := Aside0.mk (Kd.R_below (by (with_reducible repeat (first | apply Kd.R_alloc | apply Kd.R_drewN | apply Kd.R_drew)); exact HO171.out) hb); have n2_ := Aside0.mk (below_step (by repeat (first | (with_reducible first | exact HB.out | apply below_alloc | apply pw_below_drewN | apply below_drew1) | exact HB.out)) hb); clear HO_37; clear HO171; clear HB; have HO_37 := n0_; have HO171 := n1_; have HB := n2_; clear n0_ n1_ n2_; (try clear hb); (try clear hb2); (try clear hk); (try clear hi)))
             go_ret
             exact ⟨by first | rfl | (simp [errW_none, errW_some] <;> rfl) | (simp [*, errW_none, errW_some] <;> rfl), by repeat (first | (with_reducible first | exact HB.out | apply below_alloc | apply pw_below_drewN | apply below_drew1) | exact HB.out)⟩
            ·rw [if_neg c38] at H
             exact absurd H (by simp)
           ·rw [if_neg c37] at H
            exact absurd H (by simp)
       ·replace c18 := Bool.eq_false_iff.mpr c18
        subst c18
        have H1 : (some false) = some r := by rw [if_neg (show ¬ (false = true) by decide)] at H; exact H
        clear H
        have H := H1
        clear H1
        obtain rfl := Option.some.inj H
        go_wp2_with (first | ((with_reducible refine gate_dst (N := 34) rfl ?_); refine goesL_ (some 34) rfl rfl Try.func13 (by kernel_rfl) rfl #[] rfl (by (try simp only [List.map_toArray, List.map_cons, List.map_nil]); first | done | rfl | (simp only [List.length_drop, List.length_take]; rfl)) ?_; (with_reducible refine (laws_rangeAwake.calls kj5  false _ A17.out).mono ?_); rintro e w50 ⟨rfl, hb⟩; refine ⟨_, rfl, ?_⟩; have n0_ := Aside0.mk (below_step (by repeat (first | (with_reducible first | exact HB.out | apply below_alloc | apply pw_below_drewN | apply below_drew1) | exact HB.out)) hb); clear HB; have HB := n0_; clear n0_; (try clear hb); (try clear hb2); (try clear hk); (try clear hi)))
        go_ret
        exact ⟨by first | rfl | (simp [errW_none, errW_some] <;> rfl) | (simp [*, errW_none, errW_some] <;> rfl), by repeat (first | (with_reducible first | exact HB.out | apply below_alloc | apply pw_below_drewN | apply below_drew1) | exact HB.out)⟩
def laws_FnRangesTwo.Pure : Prop := ∀ (l0 : List (S24)) (l1 : List (S24)), l0.length ≤ maxLen → (∀ y ∈ l0, (((Lit.int .i64 y.f0).wf = true) ∧ ((Lit.int .i64 y.f1).wf = true))) → l1.length ≤ maxLen → (∀ y ∈ l1, (((Lit.int .i64 y.f0).wf = true) ∧ ((Lit.int .i64 y.f1).wf = true))) → ∃ k, laws_FnRangesTwo.f k l0 l1 = some true
theorem laws_FnRangesTwo.walk (P : laws_FnRangesTwo.Pure) (w : World) (A0 : Option Addr) (c0 : Nat) (l0 : List (S24)) (hr0 : Kd.C k24 w A0 l0.length l0) (hc0 : l0.length ≤ c0) (A1 : Option Addr) (c1 : Nat) (l1 : List (S24)) (hr1 : Kd.C k24 w A1 l1.length l1) (hc1 : l1.length ≤ c1) (b0_0 : l0.length ≤ maxLen) (b0_1 : (∀ y ∈ l0, (((Lit.int .i64 y.f0).wf = true) ∧ ((Lit.int .i64 y.f1).wf = true)))) (b1_0 : l1.length ≤ maxLen) (b1_1 : (∀ y ∈ l1, (((Lit.int .i64 y.f0).wf = true) ∧ ((Lit.int .i64 y.f1).wf = true)))) :
  Calls Try.prog 9 #[.slice A0 l0.length c0, .slice A1 l1.length c1] w fun e w' => e = .returned (.bool true) ∧ Below w.heap.size w w' := by
 obtain ⟨k, h⟩ := P l0 l1 b0_0 b0_1 b1_0 b1_1
 refine (laws_FnRangesTwo.calls k A0 c0 l0 A1 c1 l1 true w hr0 hc0 hr1 hc1 h).mono ?_
 rintro e w' ⟨rfl, hd⟩
 exact ⟨rfl, hd⟩

end Go.Proofs.Ytmkhkkfliecfdaa.PU
