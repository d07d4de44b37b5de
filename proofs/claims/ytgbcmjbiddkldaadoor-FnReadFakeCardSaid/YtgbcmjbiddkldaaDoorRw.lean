/- laws.readAwake answers true. -/
import Derived.Test.YtgbcmjbiddkldaaDoorRm
import Derived.Laws.IdiomStrings
import Derived.Lib.SlBytesConst
namespace Go.Proofs.YtgbcmjbiddkldaaDoor.Given
open Go.RowKit Go.Proofs.YtgbcmjbiddkldaaDoorW.PrintWords Go.Proofs.YtgbcmjbiddkldaaDoor.PR Go.Proofs.YtgbcmjbiddkldaaDoor.Pl
set_option linter.unusedVariables false
set_option linter.unusedSimpArgs false

theorem conv_data {w : World} {M : Nat} {vb dv : Value} {xs : List Int} (h : DataAt w M vb dv xs) : (convert 29 9 dv).run Tryd.prog w = .ok (.string (strOfNums xs)) w := by
  obtain ⟨A, c, rfl, hc, _, h3⟩ := h
  by_cases hn : xs = []
  · subst hn
    cases A with
    | none => exact run_convert_bytes_nil w 29 5 Tryd.underlying29 Tryd.underlying5 0 c 9 Tryd.underlying9
    | some a =>
      exact run_convert_bytes_back w 29 9 5 a c [] Tryd.underlying29 Tryd.underlying5 Tryd.underlying9 (by intro j hj; simp at hj)
  · have hpos : 0 < xs.length := List.length_pos_iff.2 hn
    obtain ⟨D, rfl, _⟩ := h3 0 xs[0] (by simp)
    refine run_convert_bytes_arg w 29 5 Tryd.underlying29 Tryd.underlying5 D 0 xs.length c xs rfl (fun i hi => ?_) 9 Tryd.underlying9
    obtain ⟨D', e, h4⟩ := h3 i xs[i] (by simp)
    cases e
    rw [Nat.zero_add]
    simpa [List.getD_eq_getElem?_getD, hi] using h4

theorem outs_at {w : World} {M : Nat} {vb v : Value} {l : List (Value × Ans)} (h : Outs w M vb v l) (hn : 0 < l.length) : ∃ g c, v = .slice (some ⟨g, 0, none⟩) l.length c ∧ ∀ (j : Nat) (hj : j < l.length), w.cell? ⟨g, 3 * j, none⟩ = some l[j].1 ∧ w.cell? ⟨g, 3 * j + 1, none⟩ = some (.int .i64 l[j].2.at_) ∧ w.cell? ⟨g, 3 * j + 2, none⟩ = some (.int .i64 l[j].2.err) := by
  obtain ⟨g, c, cur, e, _, hg, _, hr⟩ := row_cells h.own hn
  refine ⟨g, c, e, fun j hj => ?_⟩
  have key : ∀ (l : List (Value × Ans)) (j : Nat) (hj : j < l.length), (flatO l)[3 * j]? = some l[j].1 ∧ (flatO l)[3 * j + 1]? = some (.int .i64 l[j].2.at_) ∧ (flatO l)[3 * j + 2]? = some (.int .i64 l[j].2.err) := by
    intro l
    induction l with
    | nil => intro j hj; simp at hj
    | cons p r ih =>
      intro j hj
      have e : flatO (p :: r) = cellsO p ++ flatO r := by simp [flatO]
      rw [e]
      rcases j with _ | j
      · exact ⟨rfl, rfl, rfl⟩
      · have hc : (cellsO p).length = 3 := rfl
        have h1 := ih j (by simpa using hj)
        refine ⟨?_, ?_, ?_⟩
        · rw [List.getElem?_append_right (by rw [hc]; omega), hc, show 3 * (j + 1) - 3 = 3 * j by omega]; exact h1.1
        · rw [List.getElem?_append_right (by rw [hc]; omega), hc, show 3 * (j + 1) + 1 - 3 = 3 * j + 1 by omega]; exact h1.2.1
        · rw [List.getElem?_append_right (by rw [hc]; omega), hc, show 3 * (j + 1) + 2 - 3 = 3 * j + 2 by omega]; exact h1.2.2
  obtain ⟨h1, h2, h3⟩ := key l j hj
  exact ⟨cellH hg _ _ (hr _ _ h1), cellH hg _ _ (hr _ _ h2), cellH hg _ _ (hr _ _ h3)⟩

theorem one_at {w : World} {g off : Nat} {x : Value} (h : w.cell? ⟨g, off, none⟩ = some x) : ∀ (i : Nat) (u : Value), [x][i]? = some u → w.cell? ((⟨g, 0, none⟩ : Addr).add (off * 1 + i)) = some u := by
  intro i u hu
  rcases i with _ | i
  · rw [add_at]
    have : x = u := by simpa using hu
    subst this
    simpa using h
  · simp at hu
theorem cellM {w : World} {g : Nat} {cs : Array Value} {t : TypeId} {fr : Nat × Nat} (h : w.heap[g]? = some (.cells cs t fr)) (j : Nat) (v : Value) (hj : cs[j]? = some v) : w.cell? ⟨g, j, none⟩ = some v := by
  simp [World.cell?, h, hj]
set_option maxHeartbeats 4000000 in
set_option maxRecDepth 100000 in
theorem awake_any (w : World) (a : Addr) (M0 : Nat) (hL : LaidE w a M0) : Calls Tryd.prog 11 #[] w fun e w' => e = .returned (.bool true) ∧ Below w.heap.size w w' := by
  obtain ⟨H, hH⟩ : ∃ H, w.heap.size = H := ⟨_, rfl⟩
  have z1 : (w.alloc (.cells #[.int .u8 97, .int .u8 98] 5 (2, 3))).heap.size = H + 1 := by simp [hH]
  have z2 : ((w.alloc (.cells #[.int .u8 97, .int .u8 98] 5 (2, 3))).alloc (.cells #[.slice (some ⟨H, 0, none⟩) 2 2] 29)).heap.size = H + 2 := by simp [hH]
  have r1 := (MapKept.heap_alloc w (.cells #[.int .u8 97, .int .u8 98] 5 (2, 3))).1
  have r2 := (Below.heap_alloc (w.alloc (.cells #[.int .u8 97, .int .u8 98] 5 (2, 3))) (.cells #[.slice (some ⟨H, 0, none⟩) 2 2] 29) w.heap.size (by simp)).trans r1
  have s2 := (MapKept.heap_alloc (w.alloc (.cells #[.int .u8 97, .int .u8 98] 5 (2, 3))) (.cells #[.slice (some ⟨H, 0, none⟩) 2 2] 29)).1
  rw [z1] at s2
  have r3 := (Below.heap_alloc ((w.alloc (.cells #[.int .u8 97, .int .u8 98] 5 (2, 3))).alloc (.cells #[.slice (some ⟨H, 0, none⟩) 2 2] 29)) (.cells #[.int .i64 0, .int .i64 5, .int .i64 0, .int .i64 1, .int .i64 0, .int .i64 0, .int .i64 0, .int .i64 1, .int .i64 0] 32) w.heap.size (by rw [z2]; omega)).trans r2
  have s3 := (Below.heap_alloc ((w.alloc (.cells #[.int .u8 97, .int .u8 98] 5 (2, 3))).alloc (.cells #[.slice (some ⟨H, 0, none⟩) 2 2] 29)) (.cells #[.int .i64 0, .int .i64 5, .int .i64 0, .int .i64 1, .int .i64 0, .int .i64 0, .int .i64 0, .int .i64 1, .int .i64 0] 32) (H + 1) (by rw [z2]; omega)).trans s2
  have t3 := (MapKept.heap_alloc ((w.alloc (.cells #[.int .u8 97, .int .u8 98] 5 (2, 3))).alloc (.cells #[.slice (some ⟨H, 0, none⟩) 2 2] 29)) (.cells #[.int .i64 0, .int .i64 5, .int .i64 0, .int .i64 1, .int .i64 0, .int .i64 0, .int .i64 0, .int .i64 1, .int .i64 0] 32)).1
  rw [z2] at t3
  rw [hH] at r3
  have bW : Below w.heap.size w (((w.alloc (.cells #[.int .u8 97, .int .u8 98] 5 (2, 3))).alloc (.cells #[.slice (some ⟨H, 0, none⟩) 2 2] 29)).alloc (.cells #[.int .i64 0, .int .i64 5, .int .i64 0, .int .i64 1, .int .i64 0, .int .i64 0, .int .i64 0, .int .i64 1, .int .i64 0] 32)) := (((Below.refl _ _).alloc (Nat.le_refl _) _).alloc (by simp) _).alloc (by simp; omega) _
  obtain ⟨W, hW⟩ : ∃ W, (((w.alloc (.cells #[.int .u8 97, .int .u8 98] 5 (2, 3))).alloc (.cells #[.slice (some ⟨H, 0, none⟩) 2 2] 29)).alloc (.cells #[.int .i64 0, .int .i64 5, .int .i64 0, .int .i64 1, .int .i64 0, .int .i64 0, .int .i64 0, .int .i64 1, .int .i64 0] 32)) = W := ⟨_, rfl⟩
  have hWs : W.heap.size = H + 3 := by rw [← hW]; simp [hH]
  rw [hW] at r3 s3 t3 bW
  have cB : Kd.C (Kd.int .u8) W (some ⟨H, 0, none⟩) 2 [97, 98] := ⟨rfl, by omega, fun _ => ⟨_, rfl, fun j p hj => by
    rcases j with _ | _ | j
    · cases hj; exact ⟨[.int .u8 97], rfl, rfl, one_at (cellM r3 0 _ rfl)⟩
    · cases hj; exact ⟨[.int .u8 98], rfl, rfl, one_at (cellM r3 1 _ rfl)⟩
    · cases hj⟩⟩
  have cP : Kd.C (Kd.slice 5 (Kd.int .u8)) W (some ⟨H + 1, 0, none⟩) 1 [[97, 98]] := ⟨rfl, by omega, fun _ => ⟨_, rfl, fun j p hj => by
    rcases j with _ | j
    · cases hj; exact ⟨[.slice (some ⟨H, 0, none⟩) 2 2], rfl, ⟨_, 2, rfl, Nat.le_refl _, cB⟩, one_at (cellH s3 0 _ rfl)⟩
    · cases hj⟩⟩
  have cS : Kd.C k32 W (some ⟨H + 2, 0, none⟩) 3 [⟨0, 5, 0⟩, ⟨1, 0, 0⟩, ⟨0, 1, 0⟩] := by
    have o : W.ownsRow 0 32 3 (.slice (some ⟨H + 2, 0, none⟩) 3 3) 3 [.int .i64 0, .int .i64 5, .int .i64 0, .int .i64 1, .int .i64 0, .int .i64 0, .int .i64 0, .int .i64 1, .int .i64 0] := ⟨rfl, .inr ⟨H + 2, 3, _, rfl, Nat.zero_le _, t3, Nat.le_refl _, by unfold maxLen; omega, rfl, rfl⟩⟩
    have hR : Kd.R k32 32 W 0 (fun _ => True) (.slice (some ⟨H + 2, 0, none⟩) 3 3) [⟨0, 5, 0⟩, ⟨1, 0, 0⟩, ⟨0, 1, 0⟩] := ⟨fun _ _ => trivial, _, o, Reps.c3 (k32_mkM W 0 _ ⟨0, 5, 0⟩) (Reps.c3 (k32_mkM W 0 _ ⟨1, 0, 0⟩) (Reps.c3 (k32_mkM W 0 _ ⟨0, 1, 0⟩) (Reps.none _ _)))⟩
    obtain ⟨A, c, e, _, hC⟩ := Kd.R_reads hR
    cases e
    exact hC
  have hrp := repeat_any W a M0 (some ⟨H + 1, 0, none⟩) 1 [[97, 98]] false 8 (some ⟨H + 2, 0, none⟩) 3 [⟨0, 5, 0⟩, ⟨1, 0, 0⟩, ⟨0, 1, 0⟩] (hL.up (fun k hk => bW.block k (by have := hL.le; omega)) (Nat.le_refl _) (by have := hL.le; omega)) cP (Nat.le_refl _) (by simp) (by simp) (by omega) cS (Nat.le_refl _) (by simp) (by
    intro s hs
    simp at hs
    rcases hs with rfl | rfl | rfl
    · exact .inl ⟨rfl, by decide, by decide⟩
    · exact .inr ⟨rfl, by decide, by decide, by decide, by decide⟩
    · exact .inl ⟨rfl, by decide, by decide⟩)
  have hrun : runR false ([[97, 98]], [], 0) [⟨0, 5, 0⟩, ⟨1, 0, 0⟩, ⟨0, 1, 0⟩] = [⟨[97, 98], 0, 0⟩, ⟨[], 0, 0⟩, ⟨[97], 0, 0⟩] := by rfl
  rw [hrun] at hrp
  have hH' := Lib.hid hH
  clear z1 z2 r1 r2 s2 r3 s3 t3 cB cP cS hrun hL
  have hcv := Lib.run_convert_bytes_const (P := Tryd.prog) w 29 5 #[.int .u8 97, .int .u8 98] 2 2 Tryd.underlying29 Tryd.underlying5
  rw [hH] at hcv
  simp only [List.size_toArray, List.length_cons, List.length_nil, Nat.zero_add, Nat.reduceAdd] at hcv
  go_enter Tryd.func11, Tryd.ntmps11
  go_upto_region 2 with (go_at_call 10; go_must (refine hrp.mono ?_; rintro e w5 ⟨v, xs, rfl, hxs, ⟨vb, hO⟩, hb5⟩))
  have hlen : xs.length = 3 := by have := congrArg List.length hxs; simpa using this
  obtain ⟨p0, p1, p2, rfl⟩ : ∃ p0 p1 p2, xs = [p0, p1, p2] := by
    match xs, hlen with
    | [p0, p1, p2], _ => exact ⟨p0, p1, p2, rfl⟩
  simp only [List.map_cons, List.map_nil, List.cons.injEq, and_true] at hxs
  obtain ⟨e0, e1, e2⟩ := hxs
  obtain ⟨g, c, rfl, hat⟩ := outs_at hO (by simp)
  have d0 := hO.data p0 (by simp)
  have d2 := hO.data p2 (by simp)
  rw [e0] at d0
  rw [e2] at d2
  have v0 := conv_data d0
  have v2 := conv_data d2
  have c0 := (hat 0 (by simp)).1
  have c6 := (hat 2 (by simp)).1
  simp only [List.getElem_cons_zero, List.getElem_cons_succ, Nat.mul_zero, Nat.reduceMul] at c0 c6
  have hs0 : strOfNums [97, 98] = ⟨#[97, 98]⟩ := rfl
  have hs2 : strOfNums [97] = ⟨#[97]⟩ := rfl
  rw [hs0] at v0
  rw [hs2] at v2
  have hbb : Below w.heap.size w w5 := bW.trans (hb5.mono bW.size)
  obtain ⟨A0, k0, q0⟩ := d0.slice
  obtain ⟨A2, k2, q2⟩ := d2.slice
  rw [q0] at c0 v0
  rw [q2] at c6 v2
  simp only [List.length_cons, List.length_nil, Nat.zero_add, Nat.reduceAdd] at c0 c6 v0 v2
  clear hat d0 d2 e0 e1 e2 hO hlen hcv q0 q2
  go_wp2
  go_ret
  exact ⟨rfl, hbb⟩
end Go.Proofs.YtgbcmjbiddkldaaDoor.Given
