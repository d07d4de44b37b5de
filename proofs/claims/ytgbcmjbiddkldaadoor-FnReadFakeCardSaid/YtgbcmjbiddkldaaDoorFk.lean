/- The contracts of FakeSeeker's Read and Seek over a parts' reader, and of its maker. Lengths and places up to 2^60. -/
import Derived.Test.YtgbcmjbiddkldaaDoorLg
import Derived.Stop.Asserts
namespace Go.Proofs.YtgbcmjbiddkldaaDoor.Given
open Go.RowKit Go.Proofs.YtgbcmjbiddkldaaDoorW.PrintWords Go.Proofs.YtgbcmjbiddkldaaDoor.PR Go.Proofs.YtgbcmjbiddkldaaDoor.Pl
set_option linter.unusedVariables false
set_option linter.unusedSimpArgs false

/-- What a fake seeker is at: the parts that are left, its error, its place, whether it has read. -/
structure FSt where
  ps : List (List Int)
  err : Int
  off : Int
  rd : Bool
def evOf (a : Addr) (x : Int) : Value := if x = 0 then .nilIface else if x = 1 then evA a else ownV
theorem ErrS.val {a : Addr} {x : Int} {v : Value} (h : ErrS a x v) : v = evOf a x := by
  rcases h with ⟨rfl, rfl⟩ | ⟨rfl, rfl⟩ | ⟨rfl, rfl⟩ <;> rfl
theorem evOf_S {a : Addr} {x : Int} (h : x = 0 ∨ x = 1 ∨ x = 2) : ErrS a x (evOf a x) := by
  rcases h with rfl | rfl | rfl
  · exact .inl ⟨rfl, rfl⟩
  · exact .inr (.inl ⟨rfl, rfl⟩)
  · exact .inr (.inr ⟨rfl, rfl⟩)
structure FR (M B Q : Nat) (fails : Bool) (len : Int) (a : Addr) (w : World) (st : FSt) : Prop where
  hB : w.heap[B]? = some (.cells #[.iface 49 (.pointer (some ⟨Q, 0, none⟩)), evOf a st.err, .int .i64 len, .int .i64 st.off, .bool st.rd] 88 (0, 0))
  hP : PR w M Q fails st.ps
  he : st.err = 0 ∨ st.err = 1 ∨ st.err = 2
  lo : M ≤ B
theorem FR.steady (M B Q : Nat) (fails : Bool) (len : Int) (a : Addr) : Steady 88 M (FR M B Q fails len a) := by
  intro w w' st h hk
  refine ⟨(hk B (.inr ⟨_, _, h.hB, .inr (.inr rfl)⟩)).trans h.hB, h.hP.moved (fun k h2 => hk k ?_), h.he, h.lo⟩
  rcases h2 with h2 | ⟨c, t, hc, ht⟩
  · exact .inl h2
  · exact .inr ⟨c, t, hc, by rcases ht with ht | ht; exact .inl ht; exact .inr (.inl ht)⟩
def fkRead (fails : Bool) (n : Nat) (st : FSt) : FSt × List Int × Int :=
  if st.err ≠ 0 then (st, [], st.err) else if st.rd = false ∧ st.off ≠ 0 then (st, [], 3)
  else (⟨(rdP fails n st.ps).2.2, (rdP fails n st.ps).2.1, st.off, st.rd || decide ((rdP fails n st.ps).1.length ≠ 0)⟩, (rdP fails n st.ps).1, (rdP fails n st.ps).2.1)
def absF (len : Int) (st : FSt) (off wh : Int) : Int := if wh = 0 then off else if wh = 1 then st.off + off else len + off
def fkSeek (len : Int) (st : FSt) (off wh : Int) : FSt × Int × Int :=
  if st.err ≠ 0 then (st, 0, st.err) else if st.rd = true then (st, 0, 3) else if absF len st off wh < 0 then (st, 0, 3) else (⟨st.ps, st.err, absF len st off wh, st.rd⟩, absF len st off wh, 0)
theorem rdP_code (fails : Bool) (n : Nat) (ps : List (List Int)) : (rdP fails n ps).2.1 = 0 ∨ (rdP fails n ps).2.1 = 1 ∨ (rdP fails n ps).2.1 = 2 := by
  cases ps with
  | nil => simp only [rdP]; cases fails <;> simp
  | cons p r => exact .inl rfl
theorem ne_evA (a : Addr) (w : World) : (binOp .neq 64 (.iface 94 (.pointer (some a))) .nilIface).run Tryd.prog w = .ok (.bool true) w := by kernel_rfl
theorem ne_own (w : World) : (binOp .neq 64 (.iface 90 (.agg #[])) .nilIface).run Tryd.prog w = .ok (.bool true) w := by kernel_rfl
theorem ne_nil (w : World) : (binOp .neq 64 .nilIface .nilIface).run Tryd.prog w = .ok (.bool false) w := by kernel_rfl
theorem Only.refl (B : Nat) (w : World) : Only B w w := ⟨rfl, rfl, rfl, Nat.le_refl _, fun _ _ _ => rfl⟩

set_option maxHeartbeats 4000000 in
set_option maxRecDepth 100000 in
theorem fread_no (M B Q D n : Nat) (fails : Bool) (len : Int) (st : FSt) (cur : List Value) (w : World) (a : Addr) (h : FR M B Q fails len a w st) (hM : M ≤ w.heap.size) (hno : st.err ≠ 0 ∨ (st.err = 0 ∧ st.rd = false ∧ st.off ≠ 0)) :
    Calls Tryd.prog 50 #[.pointer (some ⟨B, 0, none⟩), .slice (some ⟨D, 0, none⟩) n n] w fun e w' => ∃ v, e = .returned (.tuple #[.int .i64 0, v]) ∧ ErrV w' a M (if st.err ≠ 0 then st.err else 3) v ∧ Below w.heap.size w w' := by
  obtain ⟨ps, err, off, rd⟩ := st
  have hB := h.hB
  have he := h.he
  simp only at hB he hno ⊢
  have x3 := cellH hB 3 (.int .i64 off) rfl
  have x4 := cellH hB 4 (.bool rd) rfl
  have q1 := ne_evA
  have q2 := ne_own
  have q3 := ne_nil
  rcases he with rfl | rfl | rfl
  · obtain ⟨rfl, ho⟩ : rd = false ∧ off ≠ 0 := by rcases hno with h | ⟨_, h⟩; exact absurd rfl h; exact h
    have x1 : w.cell? ⟨B, 1, none⟩ = some .nilIface := cellH hB 1 _ rfl
    have ho1 : (off == 0) = false := by simpa using ho
    have ho2 : (off != 0) = true := by simpa using ho
    clear h hB hno
    go_enter Tryd.func50, Tryd.ntmps50
    go_wp2_with (go_at_call 48; go_must (refine (errNew _ _).mono ?_; rintro e w2 ⟨g, rfl, hg, hE, hb⟩))
    go_ret2
    exact ⟨_, rfl, .inr (.inr (.inr ⟨rfl, g, rfl, by omega, hE⟩)), hb⟩
  · have x1 : ∀ n, (w.drewN n).cell? ⟨B, 1, none⟩ = some (.iface 94 (.pointer (some a))) := fun n => cellH hB 1 _ rfl
    have x1' : w.cell? ⟨B, 1, none⟩ = _ := x1 0
    clear h hB hno
    go_enter Tryd.func50, Tryd.ntmps50
    go_upto_region 2 with fail
    go_quiet (fail)
    go_wp2
    go_ret2
    exact ⟨_, rfl, .inr (.inl ⟨rfl, rfl⟩), ⟨rfl, rfl, rfl, Nat.le_refl _, fun _ _ => rfl⟩⟩
  · have x1 : ∀ n, (w.drewN n).cell? ⟨B, 1, none⟩ = some (.iface 90 (.agg #[])) := fun n => cellH hB 1 _ rfl
    have x1' : w.cell? ⟨B, 1, none⟩ = _ := x1 0
    clear h hB hno
    go_enter Tryd.func50, Tryd.ntmps50
    go_upto_region 2 with fail
    go_quiet (fail)
    go_wp2
    go_ret2
    exact ⟨_, rfl, .inr (.inr (.inl ⟨rfl, rfl⟩)), ⟨rfl, rfl, rfl, Nat.le_refl _, fun _ _ => rfl⟩⟩

set_option maxHeartbeats 8000000 in
set_option maxRecDepth 100000 in
theorem fread_in (M B Q D n : Nat) (fails : Bool) (len : Int) (ps : List (List Int)) (off : Int) (rd : Bool) (cur : List Value) (w : World) (a : Addr) (h : FR M B Q fails len a w ⟨ps, 0, off, rd⟩) (hgo : ¬ (rd = false ∧ off ≠ 0)) (hD : w.heap[D]? = some (.cells cur.toArray 5 (0, 0))) (hcur : cur.length = n) (hn : 1 ≤ n) (hn6 : n ≤ 1000000) (hMD : M ≤ D) (hM : M ≤ w.heap.size) (hL : LaidE w a M)
    (hp6 : ∀ p ∈ ps, p.length ≤ 1000000) (hr6 : ps.length ≤ 1000000) :
    Calls Tryd.prog 50 #[.pointer (some ⟨B, 0, none⟩), .slice (some ⟨D, 0, none⟩) n n] w fun e w' => ∃ v, e = .returned (.tuple #[.int .i64 ((rdP fails n ps).1.length : Int), v]) ∧ ErrS a (rdP fails n ps).2.1 v ∧
      FR M B Q fails len a w' ⟨(rdP fails n ps).2.2, (rdP fails n ps).2.1, off, rd || decide ((rdP fails n ps).1.length ≠ 0)⟩ ∧ w'.heap[D]? = some (.cells (splice cur 0 (byV (rdP fails n ps).1)).toArray 5 (0, 0)) ∧ FrT 88 M D w w' := by
  have hpr := pread M Q D 0 n n fails ps cur w a h.hP hD hn hn6 (by omega) hMD hL hp6 hr6
  have hcd := rdP_code fails n ps
  obtain ⟨data, hdat⟩ : ∃ d, (rdP fails n ps).1 = d := ⟨_, rfl⟩
  obtain ⟨code, hcode⟩ : ∃ d, (rdP fails n ps).2.1 = d := ⟨_, rfl⟩
  obtain ⟨ps', hps'⟩ : ∃ d, (rdP fails n ps).2.2 = d := ⟨_, rfl⟩
  rw [hcode] at hcd
  rw [hdat, hcode, hps'] at hpr
  rw [hdat, hcode, hps']
  have hB := h.hB
  have hlo := h.lo
  simp only at hB
  clear hdat hcode hps' hp6 hr6
  have x0 := cellH hB 0 (.iface 49 (.pointer (some ⟨Q, 0, none⟩))) rfl
  have x1 : w.cell? ⟨B, 1, none⟩ = some .nilIface := cellH hB 1 _ rfl
  have x3 := cellH hB 3 (.int .i64 off) rfl
  have x4 := cellH hB 4 (.bool rd) rfl
  have hBD : B ≠ D := neT hB hD (by decide)
  have rest := fun (w2 : World) (hF : Fr M D w w2) => hF.at_ hB hBD (by decide) (by decide)
  have hm := m49
  have q1 := ne_evA
  have q2 := ne_own
  have q3 := ne_nil
  have fin : ∀ (w2 w3 : World) (v : Value) (b : Bool), PR w2 M Q fails ps' → w2.heap[D]? = some (.cells (splice cur 0 (byV data)).toArray 5 (0, 0)) → Fr M D w w2 → Only B w2 w3 → w3.heap.size = w2.heap.size → (∀ k, k ≠ B → w3.heap[k]? = w2.heap[k]?) →
      w3.heap[B]? = some (.cells #[.iface 49 (.pointer (some ⟨Q, 0, none⟩)), evOf a code, .int .i64 len, .int .i64 off, .bool b] 88 (0, 0)) →
      FR M B Q fails len a w3 ⟨ps', code, off, b⟩ ∧ w3.heap[D]? = some (.cells (splice cur 0 (byV data)).toArray 5 (0, 0)) ∧ FrT 88 M D w w3 := by
    intro w2 w3 v b hP2 hD2 hF hO hs hk hB3
    have h2B := rest w2 hF
    refine ⟨⟨hB3, hP2.moved (fun k hk' => hk k ?_), hcd, hlo⟩, (hk D (fun e => hBD e.symm)).trans hD2, ⟨hO.os.trans hF.os, hO.tape.trans hF.tape, hO.output.trans hF.output, Nat.le_trans hF.size hO.size, fun k hk' h1 h2 => ?_⟩⟩
    · rintro rfl
      rcases hk' with hk' | ⟨c, t, hc, ht⟩
      · omega
      · rw [h2B] at hc; cases hc; rcases ht with ht | ht <;> cases ht
    · refine (hk k ?_).trans (hF.block k hk' h1 ?_)
      · rintro rfl
        rcases h2 with h2 | ⟨c, t, hc, _, _, ht⟩
        · omega
        · rw [hB] at hc; cases hc; exact ht rfl
      · rcases h2 with h2 | ⟨c, t, hc, h3, h4, _⟩
        · exact .inl h2
        · exact .inr ⟨c, t, hc, h3, h4⟩
  have Fin := Lib.hid fin
  clear fin
  have hoff : (rd = true) ∨ (rd = false ∧ off = 0) := by
    cases rd with
    | true => exact .inl rfl
    | false => exact .inr ⟨rfl, by simpa using hgo⟩
  clear hgo
  have hset : ∀ (w2 : World) (j : Nat) (x : Value) (k : Nat), k ≠ B → (w2.setCell ⟨B, j, none⟩ x).heap[k]? = w2.heap[k]? := fun w2 j x k hk => Below.heap_setCell _ _ _ k hk
  have Hset := Lib.hid hset
  clear hset
  have evs : (evOf a 0 = .nilIface) ∧ (evOf a 1 = .iface 94 (.pointer (some a))) ∧ (evOf a 2 = .iface 90 (.agg #[])) := ⟨rfl, rfl, rfl⟩
  obtain ⟨ev0, ev1, ev2⟩ := evs
  by_cases hd0 : data.length = 0
  · have hd0b : ((data.length : Int) == 0) = true := by rw [beq_iff_eq]; omega
    have hd0c : ((data.length : Int) != 0) = false := by rw [bne_eq_false_iff_eq]; omega
    have hbb : (rd || decide (data.length ≠ 0)) = rd := by simp [hd0]
    rw [hbb]
    clear hbb hd0
    rcases hoff with rfl | ⟨rfl, rfl⟩ <;> rcases hcd with rfl | rfl | rfl
    all_goals
      go_enter Tryd.func50, Tryd.ntmps50
      go_wp2_with (go_at_call 45; go_must (refine hpr.mono ?_; rintro e w2 ⟨v, rfl, hE, hP2, hD2, hF⟩); have hv := hE.val; (first | (rw [ev0] at hv; subst hv) | (rw [ev1] at hv; subst hv) | (rw [ev2] at hv; subst hv)); have h2B := Lib.hid (rest w2 hF); have f24 := frozenH h2B.out 4; have f21 := frozenH h2B.out 1; have c24 := cellH h2B.out 4 _ rfl; have c21 := cellH h2B.out 1 _ rfl)
      go_ret2
      first
        | exact ⟨_, rfl, hE, Fin.out w2 _ .nilIface _ hP2 hD2 hF (Only.refl _ _) rfl (fun _ _ => rfl) h2B.out⟩
        | exact ⟨_, rfl, hE, Fin.out w2 _ .nilIface _ hP2 hD2 hF (Only.set _ _ _ _) (by simp) (Hset.out _ _ _) (setH h2B.out 1 _ (by simp))⟩
  · have hd0b : ((data.length : Int) == 0) = false := by rw [beq_eq_false_iff_ne]; omega
    have hd0c : ((data.length : Int) != 0) = true := by rw [bne_iff_ne]; omega
    have hbb : (rd || decide (data.length ≠ 0)) = true := by simp [hd0]
    rw [hbb]
    clear hbb hd0
    rcases hoff with rfl | ⟨rfl, rfl⟩ <;> rcases hcd with rfl | rfl | rfl
    all_goals
      go_enter Tryd.func50, Tryd.ntmps50
      go_wp2_with (go_at_call 45; go_must (refine hpr.mono ?_; rintro e w2 ⟨v, rfl, hE, hP2, hD2, hF⟩); have hv := hE.val; (first | (rw [ev0] at hv; subst hv) | (rw [ev1] at hv; subst hv) | (rw [ev2] at hv; subst hv)); have h2B := Lib.hid (rest w2 hF); have f24 := frozenH h2B.out 4; have f21 := frozenH h2B.out 1; have c24 := cellH h2B.out 4 _ rfl; have c21 := cellH h2B.out 1 _ rfl; have f21' := frozenH (setH h2B.out 4 (.bool true) (by simp)) 1; have c21' := cellH (setH h2B.out 4 (.bool true) (by simp)) 1 _ rfl)
      go_ret2
      first
        | exact ⟨_, rfl, hE, Fin.out w2 _ .nilIface _ hP2 hD2 hF (Only.set _ _ _ _) (by simp) (Hset.out _ _ _) (setH h2B.out 4 _ (by simp))⟩
        | exact ⟨_, rfl, hE, Fin.out w2 _ .nilIface _ hP2 hD2 hF ((Only.set _ _ _ _).trans (Only.set _ _ _ _)) (by simp) (fun k hk => (Hset.out _ _ _ k hk).trans (Hset.out _ _ _ k hk)) (setH (setH h2B.out 4 _ (by simp)) 1 _ (by simp))⟩

/-- The two ways of a read in one. -/
theorem fread (M B Q D n : Nat) (fails : Bool) (len : Int) (st : FSt) (cur : List Value) (w : World) (a : Addr) (h : FR M B Q fails len a w st) (hD : w.heap[D]? = some (.cells cur.toArray 5 (0, 0))) (hcur : cur.length = n) (hn : 1 ≤ n) (hn6 : n ≤ 1000000) (hMD : M ≤ D) (hM : M ≤ w.heap.size) (hL : LaidE w a M)
    (hp6 : ∀ p ∈ st.ps, p.length ≤ 1000000) (hr6 : st.ps.length ≤ 1000000) :
    Calls Tryd.prog 50 #[.pointer (some ⟨B, 0, none⟩), .slice (some ⟨D, 0, none⟩) n n] w fun e w' => ∃ v, e = .returned (.tuple #[.int .i64 ((fkRead fails n st).2.1.length : Int), v]) ∧ ErrV w' a M (fkRead fails n st).2.2 v ∧
      FR M B Q fails len a w' (fkRead fails n st).1 ∧ w'.heap[D]? = some (.cells (splice cur 0 (byV (fkRead fails n st).2.1)).toArray 5 (0, 0)) ∧ FrT 88 M D w w' := by
  have hs : splice cur 0 (byV ([] : List Int)) = cur := by simp [splice, byV]
  have lift : ∀ w' : World, Below w.heap.size w w' → FR M B Q fails len a w' st ∧ w'.heap[D]? = some (.cells cur.toArray 5 (0, 0)) ∧ FrT 88 M D w w' := fun w' hb =>
    ⟨FR.steady M B Q fails len a w w' st h (fun k hk => hb.block k (by
      rcases hk with hk | ⟨c, t, hc, _⟩
      · omega
      · exact ltH hc)), (hb.block D (ltH hD)).trans hD, ⟨hb.os, hb.tape, hb.output, hb.size, fun k hk _ _ => hb.block k hk⟩⟩
  unfold fkRead
  by_cases h1 : st.err ≠ 0
  · rw [if_pos h1]
    refine (fread_no M B Q D n fails len st cur w a h hM (.inl h1)).mono ?_
    rintro e w' ⟨v, rfl, hE, hb⟩
    rw [if_pos h1] at hE
    obtain ⟨g1, g2, g3⟩ := lift w' hb
    exact ⟨v, rfl, hE, g1, by rw [hs]; exact g2, g3⟩
  · rw [if_neg h1]
    have h10 : st.err = 0 := by simpa using h1
    by_cases h2 : st.rd = false ∧ st.off ≠ 0
    · rw [if_pos h2]
      refine (fread_no M B Q D n fails len st cur w a h hM (.inr ⟨h10, h2⟩)).mono ?_
      rintro e w' ⟨v, rfl, hE, hb⟩
      rw [if_neg h1] at hE
      obtain ⟨g1, g2, g3⟩ := lift w' hb
      exact ⟨v, rfl, hE, g1, by rw [hs]; exact g2, g3⟩
    · rw [if_neg h2]
      obtain ⟨ps, err, off, rd⟩ := st
      simp only at h10 h2 hp6 hr6 ⊢
      subst h10
      refine (fread_in M B Q D n fails len ps off rd cur w a h h2 hD hcur hn hn6 hMD hM hL hp6 hr6).mono ?_
      rintro e w' ⟨v, rfl, hE, h3, h4, h5⟩
      exact ⟨v, rfl, hE.toV _ _, h3, h4, h5⟩

set_option maxHeartbeats 8000000 in
set_option maxRecDepth 100000 in
theorem fseek (M B Q : Nat) (fails : Bool) (len : Int) (st : FSt) (w : World) (a : Addr) (h : FR M B Q fails len a w st) (off wh : Int) (hwh : 0 ≤ wh ∧ wh ≤ 2) (hM : M ≤ w.heap.size) (hof : -1099511627776 ≤ off ∧ off ≤ 1099511627776) (hof2 : -1099511627776000 ≤ st.off ∧ st.off ≤ 1099511627776000) (hlen : 0 ≤ len ∧ len ≤ 1099511627776) :
    Calls Tryd.prog 51 #[.pointer (some ⟨B, 0, none⟩), .int .i64 off, .int .i64 wh] w fun e w' => ∃ v, e = .returned (.tuple #[.int .i64 (fkSeek len st off wh).2.1, v]) ∧ ErrV w' a M (fkSeek len st off wh).2.2 v ∧
      FR M B Q fails len a w' (fkSeek len st off wh).1 ∧ Only B w w' := by
  obtain ⟨ps, err, of0, rd⟩ := st
  have hB := h.hB
  have he := h.he
  have hlo := h.lo
  simp only at hB he hof2
  have x2 := cellH hB 2 (.int .i64 len) rfl
  have x3 := cellH hB 3 (.int .i64 of0) rfl
  have x4 := cellH hB 4 (.bool rd) rfl
  have f3 := frozenH hB 3
  have q1 := ne_evA
  have q2 := ne_own
  have q3 := ne_nil
  have lift : ∀ w' : World, Below w.heap.size w w' → FR M B Q fails len a w' ⟨ps, err, of0, rd⟩ ∧ Only B w w' := fun w' hb =>
    ⟨FR.steady M B Q fails len a w w' _ h (fun k hk => hb.block k (by
      rcases hk with hk | ⟨c, t, hc, _⟩
      · omega
      · exact ltH hc)), ⟨hb.os, hb.tape, hb.output, hb.size, fun k hk _ => hb.block k hk⟩⟩
  have fin3 : ∀ (w' : World) (g : Nat), w.heap.size ≤ g → ErrAny w' g → Below w.heap.size w w' → ErrV w' a M 3 (evA ⟨g, 0, none⟩) ∧ FR M B Q fails len a w' ⟨ps, err, of0, rd⟩ ∧ Only B w w' := fun w' g hg he hb =>
    ⟨.inr (.inr (.inr ⟨rfl, g, rfl, by omega, he⟩)), lift w' hb⟩
  have hset : ∀ A : Int, FR M B Q fails len a (w.setCell ⟨B, 3, none⟩ (.int .i64 A)) ⟨ps, err, A, rd⟩ ∧ Only B w (w.setCell ⟨B, 3, none⟩ (.int .i64 A)) := by
    intro A
    have hB1 := setH hB 3 (.int .i64 A) (by simp)
    have key : ∀ k, k ≠ B → (w.setCell ⟨B, 3, none⟩ (.int .i64 A)).heap[k]? = w.heap[k]? := fun k hk => Below.heap_setCell _ _ _ k hk
    refine ⟨⟨hB1, h.hP.moved (fun k hk => key k ?_), he, hlo⟩, Only.set _ _ _ _⟩
    rintro rfl
    rcases hk with hk | ⟨c, t, hc, ht⟩
    · omega
    · rw [hB] at hc; cases hc; rcases ht with ht | ht <;> cases ht
  have Hset := Lib.hid hset
  have Fin := Lib.hid fin3
  have Lift := Lib.hid lift
  have Hh := Lib.hid h
  clear hset fin3 lift h
  unfold fkSeek
  rcases he with rfl | rfl | rfl
  · have x1 : w.cell? ⟨B, 1, none⟩ = some .nilIface := cellH hB 1 _ rfl
    simp only [ne_eq, not_true_eq_false, if_false]
    clear hB
    cases rd with
    | true =>
      simp only [if_true]
      go_enter Tryd.func51, Tryd.ntmps51
      go_wp2_with (go_at_call 48; go_must (refine (errNew _ _).mono ?_; rintro e w2 ⟨g, rfl, hg, hE, hb⟩))
      go_ret2
      exact ⟨_, rfl, Fin.out _ g hg hE hb⟩
    | false =>
      simp only [Bool.false_eq_true, if_false]
      obtain ⟨A, hA⟩ : ∃ A, absF len ⟨ps, 0, of0, false⟩ off wh = A := ⟨_, rfl⟩
      rw [hA]
      unfold absF at hA
      simp only at hA
      have hbnd : -2199023255552000 ≤ A ∧ A ≤ 2199023255552000 := by
        rw [← hA]
        split
        · omega
        · split <;> omega
      have sA : wh = 0 ∧ off = A ∨ wh = 1 ∧ of0 + off = A ∨ wh = 2 ∧ len + off = A := by
        rw [← hA]
        by_cases h0 : wh = 0
        · left; simp [h0]
        · by_cases h1 : wh = 1
          · right; left; simp [h1]
          · right; right; simp [h0, h1]; omega
      have hwr : ∀ x : Int, -4611686018427387904 ≤ x ∧ x ≤ 4611686018427387904 → wrap64 x = x := fun x hx => wrap64_id (by omega) (by omega)
      have hwA := hwr A (by omega)
      clear hA hwr hof hof2 hlen hbnd
      by_cases c1 : A < 0
      · have c1b : decide (A < 0) = true := decide_eq_true c1
        rw [if_pos c1]
        rcases sA with ⟨rfl, rfl⟩ | ⟨rfl, hs⟩ | ⟨rfl, hs⟩
        · go_enter Tryd.func51, Tryd.ntmps51
          go_wp2_with (go_at_call 48; go_must (refine (errNew _ _).mono ?_; rintro e w2 ⟨g, rfl, hg, hE, hb⟩))
          go_ret2
          exact ⟨_, rfl, Fin.out _ g hg hE hb⟩
        · have hw : wrap64 (of0 + off) = A := by rw [hs]; exact hwA
          have hw0 : IntKind.i64.wrap (of0 + off) = A := (IntWalk.i64_left _).trans hw
          clear hs hwA
          go_enter Tryd.func51, Tryd.ntmps51
          go_wp2_with (go_at_call 48; go_must (refine (errNew _ _).mono ?_; rintro e w2 ⟨g, rfl, hg, hE, hb⟩))
          go_ret2
          exact ⟨_, rfl, Fin.out _ g hg hE hb⟩
        · have hw : wrap64 (len + off) = A := by rw [hs]; exact hwA
          have hw0 : IntKind.i64.wrap (len + off) = A := (IntWalk.i64_left _).trans hw
          clear hs hwA
          go_enter Tryd.func51, Tryd.ntmps51
          go_wp2_with (go_at_call 48; go_must (refine (errNew _ _).mono ?_; rintro e w2 ⟨g, rfl, hg, hE, hb⟩))
          go_ret2
          exact ⟨_, rfl, Fin.out _ g hg hE hb⟩
      · have c1b : decide (A < 0) = false := decide_eq_false c1
        rw [if_neg c1]
        rcases sA with ⟨rfl, rfl⟩ | ⟨rfl, hs⟩ | ⟨rfl, hs⟩
        · go_enter Tryd.func51, Tryd.ntmps51
          go_wp2
          go_ret2
          exact ⟨_, rfl, .inl ⟨rfl, rfl⟩, Hset.out _⟩
        · have hw : wrap64 (of0 + off) = A := by rw [hs]; exact hwA
          have hw0 : IntKind.i64.wrap (of0 + off) = A := (IntWalk.i64_left _).trans hw
          clear hs hwA
          go_enter Tryd.func51, Tryd.ntmps51
          go_wp2
          go_ret2
          exact ⟨_, rfl, .inl ⟨rfl, rfl⟩, Hset.out _⟩
        · have hw : wrap64 (len + off) = A := by rw [hs]; exact hwA
          have hw0 : IntKind.i64.wrap (len + off) = A := (IntWalk.i64_left _).trans hw
          clear hs hwA
          go_enter Tryd.func51, Tryd.ntmps51
          go_wp2
          go_ret2
          exact ⟨_, rfl, .inl ⟨rfl, rfl⟩, Hset.out _⟩
  · have x1 : ∀ n, (w.drewN n).cell? ⟨B, 1, none⟩ = some (.iface 94 (.pointer (some a))) := fun n => cellH hB 1 _ rfl
    have x1' : w.cell? ⟨B, 1, none⟩ = _ := x1 0
    simp only [show ((1 : Int) ≠ 0) by decide, if_true]
    clear hB
    go_enter Tryd.func51, Tryd.ntmps51
    go_upto_region 2 with fail
    go_quiet (fail)
    go_wp2
    go_ret2
    exact ⟨_, rfl, .inr (.inl ⟨rfl, rfl⟩), Lift.out _ ⟨rfl, rfl, rfl, Nat.le_refl _, fun _ _ => rfl⟩⟩
  · have x1 : ∀ n, (w.drewN n).cell? ⟨B, 1, none⟩ = some (.iface 90 (.agg #[])) := fun n => cellH hB 1 _ rfl
    have x1' : w.cell? ⟨B, 1, none⟩ = _ := x1 0
    simp only [show ((2 : Int) ≠ 0) by decide, if_true]
    clear hB
    go_enter Tryd.func51, Tryd.ntmps51
    go_upto_region 2 with fail
    go_quiet (fail)
    go_wp2
    go_ret2
    exact ⟨_, rfl, .inr (.inr (.inl ⟨rfl, rfl⟩)), Lift.out _ ⟨rfl, rfl, rfl, Nat.le_refl _, fun _ _ => rfl⟩⟩
theorem noSeek (v : Value) (w : World) : (Instr.typeAssert (.iface 49 v) 69 61 true).run Tryd.prog w = .ok (.tuple #[.nilIface, .bool false]) w := run_typeAssert_lacksB Tryd.underlying61 (by kernel_rfl) (by kernel_rfl) v 69 w
theorem new24 (w : World) (iv : Value) (len : Int) : Calls Tryd.prog 24 #[.iface 49 iv, .int .i64 len] w fun e w' => e = .returned (.iface 86 (.pointer (some ⟨w.heap.size, 0, none⟩))) ∧ w' = w.alloc (.cells #[.iface 49 iv, .nilIface, .int .i64 len, .int .i64 0, .bool false] 88) := by
  have h := noSeek
  go_enter Tryd.func24, Tryd.ntmps24
  go_wp2
  go_ret
  exact ⟨rfl, rfl⟩
end Go.Proofs.YtgbcmjbiddkldaaDoor.Given
