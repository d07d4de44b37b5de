/- The contract of spec.Inner.Read: what it answers, and what is left. Up to 1000 parts. -/
import Derived.Test.YtgbcmjbiddkldaaDoorRw
namespace Go.Proofs.YtgbcmjbiddkldaaDoor.Given
open Go.RowKit Go.Proofs.YtgbcmjbiddkldaaDoorW.PrintWords Go.Proofs.YtgbcmjbiddkldaaDoor.PR Go.Proofs.YtgbcmjbiddkldaaDoor.Pl
set_option linter.unusedVariables false
set_option linter.unusedSimpArgs false

theorem conv_rdb {w : World} {M : Nat} {v : Value} {xs : List Int} (h : RdB w M v xs) : (convert 29 9 v).run Tryd.prog w = .ok (.string (strOfNums xs)) w := by
  obtain ⟨A, c, rfl, hc, hr⟩ := h
  by_cases hn : xs = []
  · subst hn
    cases A with
    | none => exact run_convert_bytes_nil w 29 5 Tryd.underlying29 Tryd.underlying5 0 c 9 Tryd.underlying9
    | some a => exact run_convert_bytes_back w 29 9 5 a c [] Tryd.underlying29 Tryd.underlying5 Tryd.underlying9 (by intro j hj; simp at hj)
  · have hpos : 0 < xs.length := List.length_pos_iff.2 hn
    obtain ⟨a, rfl, _⟩ := hr 0 xs[0] (by simp)
    have hl : (loadCells a xs.length).run Tryd.prog w = .ok (xs.map (Value.int .u8)).toArray w := by
      have := run_loadCells_list (P := Tryd.prog) w a (xs.map (Value.int .u8)) (fun j v hj => by
        rw [List.getElem?_map] at hj
        obtain ⟨x, h1, rfl⟩ := Option.map_eq_some_iff.1 hj
        obtain ⟨a', e, _, h2⟩ := hr j x h1
        cases e
        exact h2)
      simpa using this
    rw [run_convert_bytes_string w 29 9 5 _ xs.length c Tryd.underlying29 Tryd.underlying5 Tryd.underlying9, run_bytesToString w _ xs.length c xs hl, foldl_push_bytes]
    simp [strOfNums, ByteArray.empty, ByteArray.emptyWithCapacity]
    rfl
/-- An inner reader of the spec's at block X: these parts are left. -/
def IR (w : World) (M X : Nat) (fails : Bool) (ps : List (List Int)) : Prop :=
  M ≤ X ∧ ∃ A c, w.heap[X]? = some (.cells #[.slice A ps.length c, .bool fails] 38 (0, 0)) ∧ ps.length ≤ c ∧
    (ps ≠ [] → ∃ (ad : Addr) (vs : List Value), A = some ad ∧ ad.block ≠ X ∧ vs.length = ps.length ∧ (∀ (j : Nat) (v : Value), vs[j]? = some v → w.cell? (ad.add j) = some v) ∧ (∀ (j : Nat) (p : List Int) (v : Value), ps[j]? = some p → vs[j]? = some v → RdB w M v p) ∧ ∀ v ∈ vs, v.oneCell' = true)
theorem IR.moved {w w' : World} {M X : Nat} {fails : Bool} {ps : List (List Int)} (h : IR w M X fails ps) (hM : M ≤ w.heap.size) (hk : ∀ k, k < w.heap.size → w'.heap[k]? = w.heap[k]?) : IR w' M X fails ps := by
  obtain ⟨h1, A, c, h2, h3, h4⟩ := h
  refine ⟨h1, A, c, (hk X (ltH h2)).trans h2, h3, fun hp => ?_⟩
  obtain ⟨ad, vs, e, h5, h6, h7, h8, h9⟩ := h4 hp
  exact ⟨ad, vs, e, h5, h6, fun j v hj => by have h10 := h7 j v hj; exact (cell_kept (hk _ (World.block_lt_of_cell? w _ h10))).trans h10, fun j p v hj hv => (h8 j p v hj hv).kept (fun k hk' => hk k (by omega)), h9⟩

theorem iread_end (M X n : Nat) (fails : Bool) (w : World) (h : IR w M X fails []) :
    Calls Tryd.prog 14 #[.pointer (some ⟨X, 0, none⟩), .int .i64 (n : Int)] w fun e w' => e = .returned (.tuple #[.slice none 0 0, .int .i64 (if fails then 2 else 1)]) ∧ w' = w := by
  obtain ⟨h1, A, c, h2, h3, _⟩ := h
  have x0 := cellH h2 0 (.slice A 0 c) rfl
  have x1 := cellH h2 1 (.bool fails) rfl
  cases fails with
  | true =>
    go_enter Tryd.func14, Tryd.ntmps14
    go_wp2
    go_ret2
    exact ⟨rfl, rfl⟩
  | false =>
    go_enter Tryd.func14, Tryd.ntmps14
    go_wp2
    go_ret2
    exact ⟨rfl, rfl⟩
set_option maxHeartbeats 4000000 in
set_option maxRecDepth 100000 in
theorem iread_part (M X n : Nat) (fails : Bool) (p : List Int) (r : List (List Int)) (w : World) (h : IR w M X fails (p :: r)) (hn : 1 ≤ n) (hn6 : n ≤ 5000) (hM : M ≤ w.heap.size) (hr6 : r.length ≤ 1000) (hp6 : p.length ≤ 1000000) :
    Calls Tryd.prog 14 #[.pointer (some ⟨X, 0, none⟩), .int .i64 (n : Int)] w fun e w' => ∃ dv, e = .returned (.tuple #[dv, .int .i64 0]) ∧ RdB w' M dv (p.take n) ∧ IR w' M X fails (if p.length ≤ n then r else p.drop n :: r) ∧ Only X w w' := by
  obtain ⟨hMX, A, c, hX, hc, hps⟩ := h
  obtain ⟨ad, vs, rfl, hadX, hvl, hvc, hvr, hv1⟩ := hps (by simp)
  simp only [List.length_cons] at hX hc hvl
  obtain ⟨v0, vr, rfl⟩ : ∃ v0 vr, vs = v0 :: vr := by
    cases vs with
    | nil => simp at hvl
    | cons a b => exact ⟨a, b, rfl⟩
  have hv0 := hvc 0 v0 rfl
  obtain ⟨A0, c0, rfl, hc0, hrd⟩ := hvr 0 p v0 rfl rfl
  have x0 := cellH hX 0 (.slice (some ad) (r.length + 1) c) rfl
  have e00 : ad.add 0 = ad := by simp [Addr.add]
  have y0 : w.cell? ad = some (.slice A0 p.length c0) := by rw [← e00]; exact hv0
  have hzl : ((r.length : Int) + 1 == 0) = false := by
    rw [beq_eq_false_iff_ne]; omega
  have hlow : ∀ k, k < M → k ≠ X := by intro k hk; omega
  have f0 := frozenH hX 0
  have hXM : ∀ k, k < M → k ≠ X := fun k hk => by omega
  by_cases hpn : p.length ≤ n
  · have hpnb : decide (p.length ≤ n) = true := decide_eq_true hpn
    rw [if_pos hpn, List.take_of_length_le hpn]
    have fin : ∀ (A' : Option Addr) (k : Nat), r.length ≤ k → (r ≠ [] → A' = some (ad.add 1)) → RdB (w.setCell ⟨X, 0, none⟩ (.slice A' r.length k)) M (.slice A0 p.length c0) p ∧ IR (w.setCell ⟨X, 0, none⟩ (.slice A' r.length k)) M X fails r ∧ Only X w (w.setCell ⟨X, 0, none⟩ (.slice A' r.length k)) := by
      intro A' k hkl hA'
      have hX2 := setH hX 0 (.slice A' r.length k) (by simp)
      have hk : ∀ k', k' ≠ X → (w.setCell ⟨X, 0, none⟩ (.slice A' r.length k)).heap[k']? = w.heap[k']? := fun k' hk => Below.heap_setCell _ _ _ k' hk
      refine ⟨RdB.kept ⟨A0, c0, rfl, hc0, hrd⟩ (fun k h => hk k (hXM k h)), ⟨hMX, A', k, hX2, hkl, fun hr => ⟨ad.add 1, vr, hA' hr, by rw [add_block]; exact hadX, by simpa using hvl, fun j v hj => ?_, fun j q v hj hv => ?_, fun v hv => hv1 v (by simp [hv])⟩⟩, Only.set _ _ _ _⟩
      · rw [add_add, Nat.add_comm 1 j]
        exact (cell_kept (hk _ (by rw [add_block]; exact hadX))).trans (hvc (j + 1) v (by simpa using hj))
      · exact (hvr (j + 1) q v (by simpa using hj) (by simpa using hv)).kept (fun k h => hk k (hXM k h))
    have Fin := Lib.hid fin
    clear fin hvr hvc hrd
    go_enter Tryd.func14, Tryd.ntmps14
    go_wp2
    · go_ret2
      exact ⟨_, rfl, Fin.out _ _ (by omega) (fun hr => by exfalso; have := List.length_pos_iff.2 hr; omega)⟩
    · go_ret2
      exact ⟨_, rfl, Fin.out _ _ (by omega) (fun _ => by simp [Addr.add])⟩
  · have hpnb : decide (p.length ≤ n) = false := decide_eq_false hpn
    rw [if_neg hpn]
    obtain ⟨i0, hi0, iz0, iz1, iz2⟩ := info_parts info29
    have b1 : Below w.heap.size w (w.alloc (.cells #[] 29)) := (Below.refl _ _).alloc (Nat.le_refl _) _
    have h1 := (MapKept.heap_alloc w (.cells #[] 29)).1
    have own0 : (w.alloc (.cells #[] 29)).ownsRow w.heap.size 29 1 (.slice (some ⟨w.heap.size, 0, none⟩) 0 0) 0 [] := ⟨rfl, .inr ⟨_, 0, #[], rfl, Nat.le_refl _, h1, Nat.le_refl _, by unfold maxLen; omega, rfl, rfl⟩⟩
    have hX1 := (b1.block X (ltH hX)).trans hX
    have x1 := cellH hX1 0 (.slice (some ad) (r.length + 1) c) rfl
    have hnews : ∀ j u, (Value.slice A0 p.length c0 :: vr)[j]? = some u → (w.alloc (.cells #[] 29)).cell? (ad.add j) = some u := fun j u hj => (cell_kept (b1.block _ (by have := World.block_lt_of_cell? w _ (hvc j u hj); exact this))).trans (hvc j u hj)
    have hvl' : (Value.slice A0 p.length c0 :: vr).length = (r.length + 1) * 1 := by rw [hvl]; omega
    have Hm := Lib.hid (show 0 + (r.length + 1) ≤ maxLen by unfold maxLen; omega)
    have Hb := Lib.hid (show (0 + (r.length + 1)) * 24 ≤ 140737488355328 by omega)
    have Hs := Lib.hid (show w.heap.size ≤ (w.alloc (.cells #[] 29)).heap.size by simp)
    have Hv := Lib.hid hvr
    have Hn := Lib.hid hnews
    have Hr := Lib.hid hrd
    have Hc := Lib.hid hvc
    have Hl := Lib.hid hvl'
    have H1 := Lib.hid hv1
    have Ho := Lib.hid own0
    clear hvr hnews hrd hvc hvl' hvl hv1 own0 hps
    have hnb : n < p.length := by omega
    obtain ⟨a0, rfl⟩ : ∃ a0, A0 = some a0 := by
      obtain ⟨a0, h, _⟩ := Hr.out 0 (p[0]'(by omega)) (by simp)
      exact ⟨a0, h⟩
    have hcn : ¬ c0 = n := by omega
    have k0 : (n : Int) ≤ (p.length : Int) := by omega
    have k1 : (n : Int) ≤ (c0 : Int) := by omega
    have k2 : (p.length : Int) ≤ (c0 : Int) := by omega
    have hn0 : ¬ n = 0 := by omega
    have fin : ∀ (w8 : World) (v8 : Value), w8.ownsRow w.heap.size 29 1 v8 (0 + (r.length + 1)) ([] ++ (Value.slice (some a0) p.length c0 :: vr)) → (w.alloc (.cells #[] 29)).grownBy w8 (Value.slice (some ⟨w.heap.size, 0, none⟩) 0 0).ownBlock →
        ∃ G c8, v8 = .slice (some ⟨G, 0, none⟩) (r.length + 1) c8 ∧ (w8.frozen? ⟨G, 0, none⟩ = false ∧ ∃ y, w8.cell? ⟨G, 0, none⟩ = some y) ∧ (w8.setCell ⟨G, 0, none⟩ (.slice (some (a0.add n)) (p.length - n) (c0 - n))).cell? ⟨X, 0, none⟩ = some (.slice (some ad) (r.length + 1) c) ∧ (w8.setCell ⟨G, 0, none⟩ (.slice (some (a0.add n)) (p.length - n) (c0 - n))).frozen? ⟨X, 0, none⟩ = false ∧ (r.length + 1 ≤ c8) ∧
          RdB ((w8.setCell ⟨G, 0, none⟩ (.slice (some (a0.add n)) (p.length - n) (c0 - n))).setCell ⟨X, 0, none⟩ (.slice (some ⟨G, 0, none⟩) (r.length + 1) c8)) M (.slice (some a0) n c0) (p.take n) ∧
          IR ((w8.setCell ⟨G, 0, none⟩ (.slice (some (a0.add n)) (p.length - n) (c0 - n))).setCell ⟨X, 0, none⟩ (.slice (some ⟨G, 0, none⟩) (r.length + 1) c8)) M X fails (p.drop n :: r) ∧
          Only X w ((w8.setCell ⟨G, 0, none⟩ (.slice (some (a0.add n)) (p.length - n) (c0 - n))).setCell ⟨X, 0, none⟩ (.slice (some ⟨G, 0, none⟩) (r.length + 1) c8)) := by
      intro w8 v8 hown8 hg8
      rw [Nat.zero_add, List.nil_append] at hown8
      obtain ⟨G, c8, cur, e, hlc, hG, hbG, hcur⟩ := row_cells hown8 (by omega)
      have hb8 : Below w.heap.size w w8 := b1.trans ⟨hg8.os, hg8.tape, hg8.output, hg8.size, fun k hk => hg8.block k (by simp; omega) (fun e => by have := Option.some.inj (show some k = some w.heap.size from e); omega)⟩
      have hX8 := (hb8.block X (ltH hX)).trans hX
      have hXs := ltH hX
      have hGX : G ≠ X := by omega
      have h0 : cur[0]? = some (.slice (some a0) p.length c0) := hcur 0 _ rfl
      have hc0s : 0 < cur.size := (Array.getElem?_eq_some_iff.1 h0).1
      have hG9 := setH hG 0 (.slice (some (a0.add n)) (p.length - n) (c0 - n)) hc0s
      have hX9 := (Below.heap_setCell w8 ⟨G, 0, none⟩ (.slice (some (a0.add n)) (p.length - n) (c0 - n)) X (fun e => hGX e.symm)).trans hX8
      have hX10 := setH hX9 0 (.slice (some ⟨G, 0, none⟩) (r.length + 1) c8) (by simp)
      have hG10 := (Below.heap_setCell (w8.setCell ⟨G, 0, none⟩ (.slice (some (a0.add n)) (p.length - n) (c0 - n))) ⟨X, 0, none⟩ (.slice (some ⟨G, 0, none⟩) (r.length + 1) c8) G hGX).trans hG9
      have hk : ∀ k, k < w.heap.size → k ≠ X → ((w8.setCell ⟨G, 0, none⟩ (.slice (some (a0.add n)) (p.length - n) (c0 - n))).setCell ⟨X, 0, none⟩ (.slice (some ⟨G, 0, none⟩) (r.length + 1) c8)).heap[k]? = w.heap[k]? := fun k hk hkX =>
        (Below.heap_setCell _ _ _ k hkX).trans ((Below.heap_setCell _ _ _ k (by show k ≠ G; omega)).trans (hb8.block k hk))
      have hkM : ∀ k, k < M → ((w8.setCell ⟨G, 0, none⟩ (.slice (some (a0.add n)) (p.length - n) (c0 - n))).setCell ⟨X, 0, none⟩ (.slice (some ⟨G, 0, none⟩) (r.length + 1) c8)).heap[k]? = w.heap[k]? := fun k h => hk k (by omega) (by omega)
      have hd := drop_parts (w := w) (M := M) (k := n) (by omega) hc0 Hr.out
      rw [if_neg hcn] at hd
      simp only [Option.map_some, Nat.mul_one] at hd
      refine ⟨G, c8, e, ⟨frozenH hG 0, _, cellH hG 0 _ h0⟩, cellH hX9 0 _ rfl, frozenH hX9 0, hlc, ?_, ⟨hMX, _, c8, hX10, by simpa using hlc, fun _ => ⟨⟨G, 0, none⟩, .slice (some (a0.add n)) (p.length - n) (c0 - n) :: vr, rfl, hGX, by simpa using Hl.out, fun j v hj => ?_, fun j q v hj hv => ?_, fun v hv => ?_⟩⟩, ⟨hb8.os, hb8.tape, hb8.output, by simpa using hb8.size, fun k h1 h2 => hk k h1 h2⟩⟩
      · have hlt : (p.take n).length = n := by rw [List.length_take]; omega
        refine ⟨some a0, c0, by rw [hlt], by rw [hlt]; omega, fun j x hj => ?_⟩
        rw [List.getElem?_take] at hj
        split at hj
        · obtain ⟨a', h1, h2, h3⟩ := Hr.out j x hj
          exact ⟨a', h1, h2, (cell_kept (hkM _ (by rw [add_block]; exact h2))).trans h3⟩
        · cases hj
      · rw [add_at]
        rcases j with _ | j
        · simp at hj
          subst hj
          exact cellH hG10 0 _ (by simp [hc0s])
        · have h1 : cur[j + 1]? = some v := hcur (j + 1) v (by simpa using hj)
          refine cellH hG10 _ _ ?_
          rw [Array.getElem?_set_ne _ (by omega), Nat.zero_add]
          exact h1
      · rcases j with _ | j
        · simp at hj hv
          subst hj hv
          exact hd.kept hkM
        · exact (Hv.out (j + 1) q v (by simpa using hj) (by simpa using hv)).kept hkM
      · rcases List.mem_cons.1 hv with rfl | hv
        · rfl
        · exact H1.out v (by simp [hv])
    have Fin := Lib.hid fin
    clear fin
    go_enter Tryd.func14, Tryd.ntmps14
    go_wp2_with (at_builtin; go_must (refine wpList_append_own _ rfl (.tmp 37) (.tmp 41) 22 rfl w.heap.size 29 i0 _ 1 24 Tryd.underlying22 hi0 iz0 iz1 iz2 rfl (by decide) _ 0 [] rfl Ho.out ad (r.length + 1) c _ rfl Hl.out Hn.out H1.out Hm.out Hb.out Hs.out ?_; intro v8 w8 hown8 hg8 hnil8; refine Hid.out ?_))
    refine Lib.hid ?_
    obtain ⟨G, c8, rfl, ⟨z1, y, z2⟩, z3, z4, z5, f1, f2, f3⟩ := Fin.out w8 v8 hown8 hg8
    have F1 := Lib.hid f1
    have F2 := Lib.hid f2
    have F3 := Lib.hid f3
    have z6 : (0 : Int) < (r.length : Int) + 1 := by omega
    clear f1 f2 f3 hown8 hg8 hnil8 Fin Hv Hn Hr Hc Hl H1 Ho Hm Hb Hs
    go_wp2
    go_ret2
    exact ⟨_, rfl, F1.out, F2.out, F3.out⟩
theorem iread (M X n : Nat) (fails : Bool) (ps : List (List Int)) (w : World) (h : IR w M X fails ps) (hn : 1 ≤ n) (hn6 : n ≤ 5000) (hM : M ≤ w.heap.size) (hr6 : ps.length ≤ 1000) (hp6 : ∀ p ∈ ps, p.length ≤ 1000000) :
    Calls Tryd.prog 14 #[.pointer (some ⟨X, 0, none⟩), .int .i64 (n : Int)] w fun e w' => ∃ dv, e = .returned (.tuple #[dv, .int .i64 (rdP fails n ps).2.1]) ∧ RdB w' M dv (rdP fails n ps).1 ∧ IR w' M X fails (rdP fails n ps).2.2 ∧ Only X w w' := by
  cases ps with
  | nil =>
    refine (iread_end M X n fails w h).mono ?_
    rintro e w' ⟨rfl, rfl⟩
    exact ⟨_, rfl, ⟨none, 0, rfl, Nat.le_refl _, fun j x hj => by simp [rdP] at hj⟩, h, ⟨rfl, rfl, rfl, Nat.le_refl _, fun _ _ _ => rfl⟩⟩
  | cons p r => exact iread_part M X n fails p r w h hn hn6 hM (by simp at hr6; omega) (hp6 p (by simp))
end Go.Proofs.YtgbcmjbiddkldaaDoor.Given
