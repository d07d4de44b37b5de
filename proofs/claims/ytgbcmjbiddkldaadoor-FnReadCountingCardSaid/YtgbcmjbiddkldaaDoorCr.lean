/- The contracts of CountingReader's Read and BytesRead over a parts' reader. Up to 1,000,000 bytes. -/
import Derived.Test.YtgbcmjbiddkldaaDoorLg
namespace Go.Proofs.YtgbcmjbiddkldaaDoor.Given
open Go.RowKit Go.Proofs.YtgbcmjbiddkldaaDoorW.PrintWords Go.Proofs.YtgbcmjbiddkldaaDoor.PR Go.Proofs.YtgbcmjbiddkldaaDoor.Pl
set_option linter.unusedVariables false
set_option linter.unusedSimpArgs false

/-- A counting reader at block B over a parts' reader at Q: the parts that are left, what it has counted. -/
structure CR (M B Q : Nat) (fails : Bool) (w : World) (st : List (List Int) × Nat) : Prop where
  hB : w.heap[B]? = some (.cells #[.iface 49 (.pointer (some ⟨Q, 0, none⟩)), .int .u64 (st.2 : Int)] 84 (0, 0))
  hP : PR w M Q fails st.1
  lo : M ≤ B
theorem CR.steady (M B Q : Nat) (fails : Bool) : Steady 84 M (CR M B Q fails) := by
  intro w w' st h hk
  refine ⟨(hk B (.inr ⟨_, _, h.hB, .inr (.inr rfl)⟩)).trans h.hB, h.hP.moved (fun k h2 => hk k ?_), h.lo⟩
  rcases h2 with h2 | ⟨c, t, hc, ht⟩
  · exact .inl h2
  · exact .inr ⟨c, t, hc, by rcases ht with ht | ht; exact .inl ht; exact .inr (.inl ht)⟩
theorem u64_id {x : Int} (h0 : 0 ≤ x) (h1 : x ≤ 1000000000) : IntKind.u64.wrap x = x := by
  unfold IntKind.wrap
  simp [IntKind.bits, IntKind.signed]
  omega
set_option maxHeartbeats 4000000 in
set_option maxRecDepth 100000 in
theorem cread (M B Q D n : Nat) (fails : Bool) (st : List (List Int) × Nat) (cur : List Value) (w : World) (a : Addr) (h : CR M B Q fails w st) (hD : w.heap[D]? = some (.cells cur.toArray 5 (0, 0))) (hcur : cur.length = n) (hn : 1 ≤ n) (hn6 : n ≤ 1000000) (hMD : M ≤ D) (hM : M ≤ w.heap.size) (hL : LaidE w a M)
    (hp6 : ∀ p ∈ st.1, p.length ≤ 1000000) (hr6 : st.1.length ≤ 1000000) (hc6 : st.2 ≤ 1000000) :
    Calls Tryd.prog 49 #[.pointer (some ⟨B, 0, none⟩), .slice (some ⟨D, 0, none⟩) n n] w fun e w' => ∃ v, e = .returned (.tuple #[.int .i64 ((rdP fails n st.1).1.length : Int), v]) ∧ ErrS a (rdP fails n st.1).2.1 v ∧
      CR M B Q fails w' ((rdP fails n st.1).2.2, st.2 + (rdP fails n st.1).1.length) ∧ w'.heap[D]? = some (.cells (splice cur 0 (byV (rdP fails n st.1).1)).toArray 5 (0, 0)) ∧ FrT 84 M D w w' := by
  obtain ⟨ps, cnt⟩ := st
  simp only at hp6 hr6 hc6 ⊢
  have hpr := pread M Q D 0 n n fails ps cur w a h.hP hD hn hn6 (by omega) hMD hL hp6 hr6
  obtain ⟨data, hdat⟩ : ∃ d, (rdP fails n ps).1 = d := ⟨_, rfl⟩
  obtain ⟨code, hcode⟩ : ∃ d, (rdP fails n ps).2.1 = d := ⟨_, rfl⟩
  obtain ⟨ps', hps'⟩ : ∃ d, (rdP fails n ps).2.2 = d := ⟨_, rfl⟩
  have hdn : data.length ≤ n := by
    rw [← hdat]
    cases ps with
    | nil => simp [rdP]
    | cons p r => simp [rdP]; omega
  rw [hdat, hcode, hps'] at hpr
  rw [hdat, hcode, hps']
  have hB := h.hB
  have hlo := h.lo
  simp only at hB
  clear hdat hcode hps' hp6 hr6
  have x0 := cellH hB 0 (.iface 49 (.pointer (some ⟨Q, 0, none⟩))) rfl
  have x1 := cellH hB 1 (.int .u64 (cnt : Int)) rfl
  have hBD : B ≠ D := neT hB hD (by decide)
  have rest := fun (w2 : World) (hF : Fr M D w w2) => hF.at_ hB hBD (by decide) (by decide)
  have hm := m49
  have e1 : IntKind.u64.wrap (data.length : Int) = (data.length : Int) := u64_id (by omega) (by omega)
  have e2 : IntKind.u64.wrap ((cnt : Int) + (data.length : Int)) = ((cnt + data.length : Nat) : Int) := by rw [u64_id (by omega) (by omega)]; omega
  go_enter Tryd.func49, Tryd.ntmps49
  go_wp2_with (go_at_call 45; go_must (refine hpr.mono ?_; rintro e w2 ⟨v, rfl, hE, hP2, hD2, hF⟩); have h2B := rest w2 hF; have szw2 := hF.size; have c21 := cellH h2B 1 (.int .u64 (cnt : Int)) rfl; have f21 := frozenH h2B 1)
  go_ret2
  have h8B := setH h2B 1 (.int .u64 ((cnt : Int) + (data.length : Int))) (by simp)
  have hk8 : ∀ k, k ≠ B → (w2.setCell ⟨B, 1, none⟩ (.int .u64 ((cnt : Int) + (data.length : Int)))).heap[k]? = w2.heap[k]? := fun k hk => Below.heap_setCell _ _ _ k hk
  refine ⟨v, rfl, hE, ⟨by simpa using h8B, hP2.moved (fun k hk => hk8 k ?_), hlo⟩, (hk8 D (fun e => hBD e.symm)).trans hD2, ⟨hF.os, hF.tape, hF.output, by simpa using hF.size, fun k hk h1 h2 => ?_⟩⟩
  · rintro rfl
    rcases hk with hk | ⟨c, t, hc, ht⟩
    · omega
    · rw [h2B] at hc; cases hc; rcases ht with ht | ht <;> cases ht
  · refine (hk8 k ?_).trans (hF.block k hk h1 ?_)
    · rintro rfl
      rcases h2 with h2 | ⟨c, t, hc, _, _, ht⟩
      · omega
      · rw [hB] at hc; cases hc; exact ht rfl
    · rcases h2 with h2 | ⟨c, t, hc, h3, h4, _⟩
      · exact .inl h2
      · exact .inr ⟨c, t, hc, h3, h4⟩
theorem i64_small {x : Int} (h0 : 0 ≤ x) (h1 : x ≤ 1000000000) : IntKind.i64.wrap x = x := (IntWalk.i64_left x).trans (wrap64_id (by omega) (by omega))
/-- BytesRead. -/
theorem cbytes (M B Q : Nat) (fails : Bool) (st : List (List Int) × Nat) (w : World) (h : CR M B Q fails w st) :
    Calls Tryd.prog 28 #[.pointer (some ⟨B, 0, none⟩)] w fun e w' => e = .returned (.int .u64 (st.2 : Int)) ∧ w' = w := by
  have x1 := cellH h.hB 1 (.int .u64 (st.2 : Int)) rfl
  clear h
  go_enter Tryd.func28, Tryd.ntmps28
  go_wp2
  go_ret
  exact ⟨rfl, rfl⟩
theorem new23 (w : World) (iv : Value) : Calls Tryd.prog 23 #[.iface 49 iv] w fun e w' => e = .returned (.pointer (some ⟨w.heap.size, 0, none⟩)) ∧ w' = w.alloc (.cells #[.iface 49 iv, .int .u64 0] 84) := by
  go_enter Tryd.func23, Tryd.ntmps23
  go_wp2
  go_ret
  exact ⟨rfl, rfl⟩
end Go.Proofs.YtgbcmjbiddkldaaDoor.Given
