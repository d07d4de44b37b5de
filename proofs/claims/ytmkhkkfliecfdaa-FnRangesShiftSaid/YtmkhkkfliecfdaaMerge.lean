/- The contracts of Range.End, Range.IsEmpty and of merge of two ranges near enough. -/
import Derived.Test.YtmkhkkfliecfdaaProg
import Derived.Test.YtmkhkkfliecfdaaSet
import Derived.WalkKit
import Derived.WalkSpells
import Derived.WalkLawsBesides
import Derived.Lib.Hide
import Derived.KernelRfl
import Derived.Deep.LoopGhost
import Derived.Deep.QuietTactic
import Derived.BigQuiet
import Derived.Deep.RegionWith
import Derived.Deep.DeepCutAuto
import Derived.BigRegion
import Derived.RegionTactic
namespace Go.Proofs.Ytmkhkkfliecfdaa.Given
open Go.RowKit
set_option linter.unusedVariables false
set_option linter.unusedSimpArgs false

theorem bcell {W w1 : World} (hb : Below W.heap.size W w1) : (∀ b o, b < W.heap.size → w1.cell? ⟨b, o, none⟩ = W.cell? ⟨b, o, none⟩) ∧ (∀ b o, b < W.heap.size → w1.frozen? ⟨b, o, none⟩ = W.frozen? ⟨b, o, none⟩) :=
  ⟨fun b o h => hb.cell (p := ⟨b, o, none⟩) h, fun b o h => hb.frozen (p := ⟨b, o, none⟩) h⟩
set_option maxHeartbeats 400000 in
theorem end_any (p s : Int) (w : World) (h1 : -17592186044416 ≤ p) (h2 : p ≤ 17592186044416) (h3 : -17592186044416 ≤ s) (h4 : s ≤ 17592186044416) :
    Calls Try.prog 42 #[.agg #[.int .i64 p, .int .i64 s]] w fun e w' => e = .returned (.int .i64 (p + s)) ∧ Below w.heap.size w w' := by
  go_enter Try.func42, Try.ntmps42
  go_wp2
  go_ret
  exact ⟨rfl, (Below.refl _ _).alloc (Nat.le_refl _) _⟩
set_option maxHeartbeats 400000 in
theorem empty_any (p s : Int) (w : World) :
    Calls Try.prog 43 #[.agg #[.int .i64 p, .int .i64 s]] w fun e w' => e = .returned (.bool (decide (s ≤ 0))) ∧ Below w.heap.size w w' := by
  go_enter Try.func43, Try.ntmps43
  go_wp2
  go_ret
  exact ⟨rfl, (Below.refl _ _).alloc (Nat.le_refl _) _⟩

theorem undrew {W w1 : World} (h : Below W.drew.heap.size W.drew w1) : Below W.heap.size W w1 := ⟨h.os, h.tape, h.output, h.size, h.block⟩
set_option maxHeartbeats 1000000 in
theorem merge_false (pb po qb qo : Nat) (n1 n2 d1 d2 : Int) (w : World) (hn : Near (n1, n2)) (hd : Near (d1, d2))
    (p0 : w.cell? ⟨pb, po, none⟩ = some (.int .i64 n1)) (p1 : w.cell? ⟨pb, po + 1, none⟩ = some (.int .i64 n2))
    (q0 : w.cell? ⟨qb, qo, none⟩ = some (.int .i64 d1)) (q1 : w.cell? ⟨qb, qo + 1, none⟩ = some (.int .i64 d2)) (hpb : pb < w.heap.size) (hqb : qb < w.heap.size)
    (ht : ¬ d1 ≤ n1 + n2) :
    Calls Try.prog 52 #[.pointer (some ⟨pb, po, none⟩), .pointer (some ⟨qb, qo, none⟩)] w fun e w' => e = .returned (.bool false) ∧ Below w.heap.size w w' := by
  obtain ⟨hn1, hn2, hn3, hn4⟩ := hn
  obtain ⟨hd1, hd2, hd3, hd4⟩ := hd
  simp only at hn1 hn2 hn3 hn4 hd1 hd2 hd3 hd4
  go_enter Try.func52, Try.ntmps52
  go_wp2
  go_region_with (go_at_call 42; refine (end_any n1 n2 _ hn1 hn2 hn3 hn4).mono ?_; rintro e w1 ⟨rfl, hb1⟩; have kp0 := (hb1.cell (p := ⟨pb, po, none⟩) (by simpa using hpb)).trans p0; have kp1 := (hb1.cell (p := ⟨pb, po + 1, none⟩) (by simpa using hpb)).trans p1; have kq0 := (hb1.cell (p := ⟨qb, qo, none⟩) (by simpa using hqb)).trans q0; have kq1 := (hb1.cell (p := ⟨qb, qo + 1, none⟩) (by simpa using hqb)).trans q1)
  all_goals
    go_wp2
    go_simp
    go_ret
    first | exact ⟨rfl, hb1⟩ | exact ⟨rfl, undrew hb1⟩

theorem cell_apart (w : World) {b o b' o' : Nat} (h : b ≠ b' ∨ o ≠ o') (u : Value) : (w.setCell ⟨b', o', none⟩ u).cell? ⟨b, o, none⟩ = w.cell? ⟨b, o, none⟩ :=
  World.cell?_setCell_other (w := w) (a := ⟨b', o', none⟩) (b := ⟨b, o, none⟩) (v := u) (by intro e; simp only [Addr.mk.injEq] at e; rcases h with h | h <;> omega)
set_option maxHeartbeats 2000000 in
theorem merge_true (pb po qb qo : Nat) (n1 n2 d1 d2 : Int) (w : World) (hn : Near (n1, n2)) (hd : Near (d1, d2))
    (p0 : w.cell? ⟨pb, po, none⟩ = some (.int .i64 n1)) (p1 : w.cell? ⟨pb, po + 1, none⟩ = some (.int .i64 n2))
    (q0 : w.cell? ⟨qb, qo, none⟩ = some (.int .i64 d1)) (q1 : w.cell? ⟨qb, qo + 1, none⟩ = some (.int .i64 d2)) (hpb : pb < w.heap.size) (hqb : qb < w.heap.size)
    (f0 : w.frozen? ⟨qb, qo, none⟩ = false) (f1 : w.frozen? ⟨qb, qo + 1, none⟩ = false)
    (ht : d1 ≤ n1 + n2) (hne : pb ≠ qb ∨ po + 2 ≤ qo ∨ qo + 2 ≤ po) :
    Calls Try.prog 52 #[.pointer (some ⟨pb, po, none⟩), .pointer (some ⟨qb, qo, none⟩)] w fun e w' => e = .returned (.bool true) ∧
      ∃ w1, Below w.heap.size w w1 ∧ w' = (w1.setCell ⟨qb, qo + 1, none⟩ (.int .i64 (merged (n1, n2) (d1, d2)).2)).setCell ⟨qb, qo, none⟩ (.int .i64 n1) := by
  obtain ⟨hn1, hn2, hn3, hn4⟩ := hn
  obtain ⟨hd1, hd2, hd3, hd4⟩ := hd
  simp only at hn1 hn2 hn3 hn4 hd1 hd2 hd3 hd4
  go_enter Try.func52, Try.ntmps52
  go_wp2
  go_cut [13] (fun v13 wc => v13 = .bool false ∧ Below w.heap.size w wc)
  case first =>
    go_region_with (go_at_call 42; refine (end_any n1 n2 _ hn1 hn2 hn3 hn4).mono ?_; rintro e w1 ⟨rfl, hb1⟩; have kp0 := (hb1.cell (p := ⟨pb, po, none⟩) (by simpa using hpb)).trans p0; have kp1 := (hb1.cell (p := ⟨pb, po + 1, none⟩) (by simpa using hpb)).trans p1; have kq0 := (hb1.cell (p := ⟨qb, qo, none⟩) (by simpa using hqb)).trans q0; have kq1 := (hb1.cell (p := ⟨qb, qo + 1, none⟩) (by simpa using hqb)).trans q1)
    all_goals
      go_wp2_with fail
      go_simp
      go_meet
      first | exact ⟨by rw [decide_eq_false (by omega)], hb1⟩ | exact ⟨by rw [decide_eq_false (by omega)], undrew hb1⟩
  case rest =>
    obtain ⟨rfl, hbc⟩ := hcut
    obtain ⟨wz, rfl⟩ : ∃ wz : World, wz = wc := ⟨_, rfl⟩
    have zp0 := (hbc.cell (p := ⟨pb, po, none⟩) hpb).trans p0
    have zp1 := (hbc.cell (p := ⟨pb, po + 1, none⟩) hpb).trans p1
    have zq0 := (hbc.cell (p := ⟨qb, qo, none⟩) hqb).trans q0
    have zq1 := (hbc.cell (p := ⟨qb, qo + 1, none⟩) hqb).trans q1
    have zf0 := (hbc.frozen (p := ⟨qb, qo, none⟩) hqb).trans f0
    have zf1 := (hbc.frozen (p := ⟨qb, qo + 1, none⟩) hqb).trans f1
    have hzp : pb < wz.heap.size := Nat.lt_of_lt_of_le hpb hbc.size
    have hzq : qb < wz.heap.size := Nat.lt_of_lt_of_le hqb hbc.size
    clear p0 p1 q0 q1 f0 f1
    by_cases hgt : d1 + d2 < n1 + n2
    · have hm : Hid (merged (n1, n2) (d1, d2) = (n1, n2)) := Lib.hid (by unfold merged; rw [if_pos hgt])
      go_wp2_with fail
      go_cut [22] (fun v22 wc => v22 = .bool true ∧ Below wz.heap.size wz wc)
      case first =>
        go_region_with (first | (go_at_call 42; (with_reducible refine (end_any n1 n2 _ hn1 hn2 hn3 hn4).mono ?_); rintro e w1 ⟨rfl, hb1⟩; have kp0 := (hb1.cell (p := ⟨pb, po, none⟩) (by simpa using hzp)).trans zp0; have kp1 := (hb1.cell (p := ⟨pb, po + 1, none⟩) (by simpa using hzp)).trans zp1; have kq0 := (hb1.cell (p := ⟨qb, qo, none⟩) (by simpa using hzq)).trans zq0; have kq1 := (hb1.cell (p := ⟨qb, qo + 1, none⟩) (by simpa using hzq)).trans zq1) | (go_at_call 42; (with_reducible refine (end_any d1 d2 _ hd1 hd2 hd3 hd4).mono ?_); rintro e w2 ⟨rfl, hb2⟩))
        all_goals
          go_wp2_with fail
          go_simp
          go_meet
          first | exact ⟨rfl, hb1.trans (hb2.mono hb1.size)⟩ | exact ⟨rfl, (undrew hb1).trans (hb2.mono hb1.size)⟩
      case rest =>
        obtain ⟨rfl, hbd⟩ := hcut
        obtain ⟨wy, rfl⟩ : ∃ wy : World, wy = wc := ⟨_, rfl⟩
        have yp0 := (hbd.cell (p := ⟨pb, po, none⟩) hzp).trans zp0
        have yp1 := (hbd.cell (p := ⟨pb, po + 1, none⟩) hzp).trans zp1
        have yq0 := (hbd.cell (p := ⟨qb, qo, none⟩) hzq).trans zq0
        have yq1 := (hbd.cell (p := ⟨qb, qo + 1, none⟩) hzq).trans zq1
        have yf0 := (hbd.frozen (p := ⟨qb, qo, none⟩) hzq).trans zf0
        have yf1 := (hbd.frozen (p := ⟨qb, qo + 1, none⟩) hzq).trans zf1
        clear zp0 zp1 zq0 zq1 zf0 zf1
        have s1 : (wy.setCell ⟨qb, qo + 1, none⟩ (.int .i64 n2)).cell? ⟨pb, po, none⟩ = some (.int .i64 n1) := (cell_apart wy (by rcases hne with h | h | h <;> first | exact .inl h | (right; omega)) _).trans yp0
        go_wp2_with fail
        refine bodyPost_ret (results_tmp rfl _ _ _) rfl ?_
        refine ⟨rfl, wy, hbc.trans (hbd.mono hbc.size), ?_⟩
        rw [hm.out]
    · have hm : Hid (merged (n1, n2) (d1, d2) = (n1, d2 + (d1 - n1))) := Lib.hid (by unfold merged; rw [if_neg hgt])
      go_wp2_with fail
      go_cut [22] (fun v22 wc => v22 = .bool false ∧ Below wz.heap.size wz wc)
      case first =>
        go_region_with (first | (go_at_call 42; (with_reducible refine (end_any n1 n2 _ hn1 hn2 hn3 hn4).mono ?_); rintro e w1 ⟨rfl, hb1⟩; have kp0 := (hb1.cell (p := ⟨pb, po, none⟩) (by simpa using hzp)).trans zp0; have kp1 := (hb1.cell (p := ⟨pb, po + 1, none⟩) (by simpa using hzp)).trans zp1; have kq0 := (hb1.cell (p := ⟨qb, qo, none⟩) (by simpa using hzq)).trans zq0; have kq1 := (hb1.cell (p := ⟨qb, qo + 1, none⟩) (by simpa using hzq)).trans zq1) | (go_at_call 42; (with_reducible refine (end_any d1 d2 _ hd1 hd2 hd3 hd4).mono ?_); rintro e w2 ⟨rfl, hb2⟩))
        all_goals
          go_wp2_with fail
          go_simp
          go_meet
          first | exact ⟨by rw [decide_eq_false (by omega)], hb1.trans (hb2.mono hb1.size)⟩ | exact ⟨by rw [decide_eq_false (by omega)], (undrew hb1).trans (hb2.mono hb1.size)⟩
      case rest =>
        obtain ⟨rfl, hbd⟩ := hcut
        obtain ⟨wy, rfl⟩ : ∃ wy : World, wy = wc := ⟨_, rfl⟩
        have yp0 := (hbd.cell (p := ⟨pb, po, none⟩) hzp).trans zp0
        have yp1 := (hbd.cell (p := ⟨pb, po + 1, none⟩) hzp).trans zp1
        have yq0 := (hbd.cell (p := ⟨qb, qo, none⟩) hzq).trans zq0
        have yq1 := (hbd.cell (p := ⟨qb, qo + 1, none⟩) hzq).trans zq1
        have yf0 := (hbd.frozen (p := ⟨qb, qo, none⟩) hzq).trans zf0
        have yf1 := (hbd.frozen (p := ⟨qb, qo + 1, none⟩) hzq).trans zf1
        clear zp0 zp1 zq0 zq1 zf0 zf1
        have s1 : (wy.setCell ⟨qb, qo + 1, none⟩ (.int .i64 (d2 + (d1 - n1)))).cell? ⟨pb, po, none⟩ = some (.int .i64 n1) := (cell_apart wy (by rcases hne with h | h | h <;> first | exact .inl h | (right; omega)) _).trans yp0
        go_wp2_with fail
        go_region
        go_wp2_with fail
        refine bodyPost_ret (results_tmp rfl _ _ _) rfl ?_
        refine ⟨rfl, wy.drew, (hbc.trans (hbd.mono hbc.size)).drew, ?_⟩
        rw [hm.out]
        rfl
end Go.Proofs.Ytmkhkkfliecfdaa.Given
