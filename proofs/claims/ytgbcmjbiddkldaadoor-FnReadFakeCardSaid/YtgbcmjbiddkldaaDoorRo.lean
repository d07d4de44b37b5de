/- Answers in memory: bytes that were read, the place, the error's kind; a row of them. -/
import Derived.Test.YtgbcmjbiddkldaaDoorRs
namespace Go.Proofs.YtgbcmjbiddkldaaDoor.Given
open Go.RowKit Go.Proofs.YtgbcmjbiddkldaaDoorW.PrintWords Go.Proofs.YtgbcmjbiddkldaaDoor.PR Go.Proofs.YtgbcmjbiddkldaaDoor.Pl
set_option linter.unusedVariables false
set_option linter.unusedSimpArgs false

structure Ans where
  data : List Int
  at_ : Int
  err : Int
/-- dv is a slice of bytes xs of the call's own, in a block that is not vb's. -/
def DataAt (w : World) (M : Nat) (vb dv : Value) (xs : List Int) : Prop :=
  ∃ A c, dv = .slice A xs.length c ∧ xs.length ≤ c ∧ (∀ D, dv.ownBlock = some D → M ≤ D ∧ (∃ cur, w.heap[D]? = some (.cells cur 5 (0, 0))) ∧ some D ≠ vb.ownBlock) ∧
    ∀ (j : Nat) (x : Int), xs[j]? = some x → ∃ D, A = some ⟨D, 0, none⟩ ∧ w.cell? ⟨D, j, none⟩ = some (.int .u8 x)
theorem DataAt.moved {w w' : World} {M : Nat} {vb vb' dv : Value} {xs : List Int} (h : DataAt w M vb dv xs) (hk : ∀ k, M ≤ k → k < w.heap.size → (∃ cur, w.heap[k]? = some (.cells cur 5 (0, 0))) → some k ≠ vb.ownBlock → w'.heap[k]? = w.heap[k]?)
    (hv : vb'.ownBlock = vb.ownBlock ∨ ∃ g, vb'.ownBlock = some g ∧ w.heap.size ≤ g) : DataAt w' M vb' dv xs := by
  obtain ⟨A, c, rfl, h1, h2, h3⟩ := h
  refine ⟨A, c, rfl, h1, fun D hD => ?_, fun j x hj => ?_⟩
  · obtain ⟨q1, ⟨cur, q2⟩, q3⟩ := h2 D hD
    refine ⟨q1, ⟨cur, (hk D q1 (ltH q2) ⟨cur, q2⟩ q3).trans q2⟩, ?_⟩
    rcases hv with hv | ⟨g, hg, hlt⟩
    · rw [hv]; exact q3
    · rw [hg]
      intro e
      have := Option.some.inj e
      have := ltH q2
      omega
  · obtain ⟨a, rfl, h4⟩ := h3 j x hj
    obtain ⟨q1, ⟨cur, q2⟩, q3⟩ := h2 a rfl
    exact ⟨a, rfl, (cell_kept (hk _ q1 (ltH q2) ⟨cur, q2⟩ q3)).trans h4⟩
theorem DataAt.nil (w : World) (M : Nat) (vb : Value) : DataAt w M vb (.slice none 0 0) [] := by
  refine ⟨none, 0, rfl, Nat.le_refl _, ?_, ?_⟩
  · intro D hD
    cases hD
  · intro j x hj
    simp at hj
/-- The first bytes of a block that was read into. -/
theorem DataAt.read {w : World} {M D n : Nat} {vb : Value} {cur : List Value} {data : List Int} (hD : w.heap[D]? = some (.cells (splice cur 0 (byV data)).toArray 5 (0, 0))) (hMD : M ≤ D) (hDv : some D ≠ vb.ownBlock) (hn : data.length ≤ n) :
    DataAt w M vb (.slice (some ⟨D, 0, none⟩) data.length n) data := by
  refine ⟨_, _, rfl, hn, fun D' hD' => ?_, fun j x hj => ⟨_, rfl, ?_⟩⟩
  · have : D = D' := by simpa [Value.ownBlock] using hD'
    subst this
    exact ⟨hMD, ⟨_, hD⟩, hDv⟩
  · have hj2 : j < data.length := (List.getElem?_eq_some_iff.1 hj).1
    refine cellH hD j _ ?_
    simp only [List.getElem?_toArray, splice, List.take_zero, List.nil_append]
    rw [List.getElem?_append_left (by rw [byV_len]; exact hj2)]
    unfold byV
    rw [List.getElem?_map, hj]
    rfl

def cellsO (p : Value × Ans) : List Value := [p.1, .int .i64 p.2.at_, .int .i64 p.2.err]
def flatO (l : List (Value × Ans)) : List Value := (l.map cellsO).flatten
theorem flatO_snoc (l : List (Value × Ans)) (p : Value × Ans) : flatO (l ++ [p]) = flatO l ++ cellsO p := by simp [flatO]
/-- v is a row of answers. -/
structure Outs (w : World) (M : Nat) (vb v : Value) (l : List (Value × Ans)) : Prop where
  own : w.ownsRow M 34 3 v l.length (flatO l)
  data : ∀ p ∈ l, DataAt w M vb p.1 p.2.data
theorem Outs.moved {w w' : World} {M : Nat} {vb vb' v : Value} {l : List (Value × Ans)} (h : Outs w M vb v l)
    (hk : ∀ k, M ≤ k → k < w.heap.size → (∃ cur t, w.heap[k]? = some (.cells cur t (0, 0)) ∧ (t = 5 ∨ t = 34)) → some k ≠ vb.ownBlock → w'.heap[k]? = w.heap[k]?)
    (hv5 : ∀ k, vb.ownBlock = some k → ∃ cur, w.heap[k]? = some (.cells cur 5 (0, 0)))
    (hv : vb'.ownBlock = vb.ownBlock ∨ ∃ g, vb'.ownBlock = some g ∧ w.heap.size ≤ g) : Outs w' M vb' v l := by
  refine ⟨own_move h.own (fun k e => ?_), fun p hp => (h.data p hp).moved (fun k h1 h2 h3 h4 => by obtain ⟨cur, h3⟩ := h3; exact hk k h1 h2 ⟨cur, 5, h3, .inl rfl⟩ h4) hv⟩
  obtain ⟨cells, hc⟩ := own_typed h.own k e
  refine hk k (own_base h.own k e) (own_lt h.own k e) ⟨cells, 34, hc, .inr rfl⟩ (fun e' => ?_)
  obtain ⟨cur, h5⟩ := hv5 k e'.symm
  rw [hc] at h5
  cases h5
theorem Outs.nil (w : World) (M : Nat) (vb : Value) : Outs w M vb (.slice none 0 0) [] := ⟨own_nil _ _ _ _, by simp⟩
theorem info34 : (Tryd.prog.info? 34).map (fun i => (i.zero, i.size, i.bytes)) = some (some (.agg #[.slice none 0 0, .int .i64 0, .int .i64 0]), 3, 40) := by kernel_rfl
theorem cells_three (w : World) (x y z : Value) (t : TypeId) : ∀ j q, [x, y, z][j]? = some q → (w.alloc (.cells #[x, y, z] t)).cell? ((⟨w.heap.size, 0, none⟩ : Addr).add j) = some q := by
  intro j q hq
  have hj : j < 3 := (List.getElem?_eq_some_iff.1 hq).1
  rcases j with _ | _ | _ | j
  · simp at hq; subst hq; simp [Addr.add]
  · simp at hq; subst hq; simp [Addr.add]
  · simp at hq; subst hq; simp [Addr.add]
  · omega
theorem DataAt.slice {w : World} {M : Nat} {vb dv : Value} {xs : List Int} (h : DataAt w M vb dv xs) : ∃ A c, dv = .slice A xs.length c := by
  obtain ⟨A, c, e, _⟩ := h
  exact ⟨A, c, e⟩
theorem make_cells {w : World} {M g n : Nat} {l : List Value} (h : w.ownsRow M 5 1 (.slice (some ⟨g, 0, none⟩) n n) n l) : ∃ cur : List Value, w.heap[g]? = some (.cells cur.toArray 5 (0, 0)) ∧ cur.length = n := by
  rcases h.2 with ⟨e, _⟩ | ⟨g', cap, cur, e, _, hh, _, _, hz, _⟩
  · cases e
  · cases e
    exact ⟨cur.toList, by simpa using hh, by simpa using hz⟩

/-- One step over a repeatable reader. -/
abbrev RSt := List (List Int) × List Int × Nat
def stR (fails : Bool) (st : RSt) (s : S32) : RSt × Ans :=
  if s.f0 = 0 then (((rrRead fails s.f1.toNat st.1 st.2.1 st.2.2).1, (rrRead fails s.f1.toNat st.1 st.2.1 st.2.2).2.1, st.2.2 + (rrRead fails s.f1.toNat st.1 st.2.1 st.2.2).2.2.1.length), ⟨(rrRead fails s.f1.toNat st.1 st.2.1 st.2.2).2.2.1, 0, (rrRead fails s.f1.toNat st.1 st.2.1 st.2.2).2.2.2⟩)
  else ((st.1, st.2.1, (rrSeek st.2.1.length st.2.2 s.f1 s.f2).2.2), ⟨[], (rrSeek st.2.1.length st.2.2 s.f1 s.f2).1, (rrSeek st.2.1.length st.2.2 s.f1 s.f2).2.1⟩)
def runR (fails : Bool) : RSt → List S32 → List Ans
  | _, [] => []
  | st, s :: l => (stR fails st s).2 :: runR fails (stR fails st s).1 l
theorem runR_length (fails : Bool) : ∀ (l : List S32) (st : RSt), (runR fails st l).length = l.length
  | [], _ => rfl
  | s :: l, st => by simp [runR, runR_length fails l]
def okR (s : S32) : Prop := (s.f0 = 0 ∧ 1 ≤ s.f1 ∧ s.f1 ≤ 5000) ∨ (s.f0 = 1 ∧ -1099511627776 ≤ s.f1 ∧ s.f1 ≤ 1099511627776 ∧ 0 ≤ s.f2 ∧ s.f2 ≤ 2)

/-- The two ways of a read in one. -/
theorem rread (M B Q D n i : Nat) (fails : Bool) (ps : List (List Int)) (kept : List Int) (vb : Value) (cur : List Value) (w : World) (a : Addr) (h : RR w M B Q fails ps kept i vb) (hD : w.heap[D]? = some (.cells cur.toArray 5 (0, 0))) (hcur : cur.length = n) (hDv : some D ≠ vb.ownBlock) (hn : 1 ≤ n) (hn6 : n ≤ 1000000) (hMD : M ≤ D) (hM : M ≤ w.heap.size) (hL : LaidE w a M)
    (hp6 : ∀ p ∈ ps, p.length ≤ 1000000) (hr6 : ps.length ≤ 1000000) (hk6 : kept.length ≤ 1000000) :
    Calls Tryd.prog 46 #[.pointer (some ⟨B, 0, none⟩), .slice (some ⟨D, 0, none⟩) n n] w fun e w' => ∃ v vb', e = .returned (.tuple #[.int .i64 ((rrRead fails n ps kept i).2.2.1.length : Int), v]) ∧ ErrS a (rrRead fails n ps kept i).2.2.2 v ∧
      RR w' M B Q fails (rrRead fails n ps kept i).1 (rrRead fails n ps kept i).2.1 (i + (rrRead fails n ps kept i).2.2.1.length) vb' ∧ (vb'.ownBlock = vb.ownBlock ∨ ∃ g, vb'.ownBlock = some g ∧ w.heap.size ≤ g) ∧
      w'.heap[D]? = some (.cells (splice cur 0 (byV (rrRead fails n ps kept i).2.2.1)).toArray 5 (0, 0)) ∧ FrR M D vb w w' := by
  unfold rrRead
  by_cases hi : i = kept.length
  · subst hi
    simp only [if_true]
    exact rread_in M B Q D n fails ps kept vb cur w a h hD hcur hDv hn hn6 hMD hM hL hp6 hr6 hk6
  · simp only [if_neg hi]
    refine (rread_kept M B Q D n i fails ps kept vb cur w h (by have := h.hi; omega) hD hcur hDv hn6 hMD hM hk6).mono ?_
    rintro e w' ⟨rfl, h1, h2, h3⟩
    exact ⟨_, vb, rfl, .inl ⟨rfl, rfl⟩, h1, .inl rfl, h2, h3⟩
theorem rrRead_len (fails : Bool) (n : Nat) (ps : List (List Int)) (kept : List Int) (i : Nat) : (rrRead fails n ps kept i).2.2.1.length ≤ n ∧ (rrRead fails n ps kept i).2.1.length ≤ kept.length + n ∧ (rrRead fails n ps kept i).1.length ≤ ps.length ∧ (∀ K, (∀ p ∈ ps, p.length ≤ K) → ∀ p ∈ (rrRead fails n ps kept i).1, p.length ≤ K) := by
  unfold rrRead
  split
  · cases ps with
    | nil => simp [rdP]
    | cons p r =>
      simp only [rdP]
      refine ⟨by simp; omega, by simp; omega, by split <;> simp, fun K hK => ?_⟩
      split
      · intro q hq; exact hK q (by simp [hq])
      · intro q hq
        rcases List.mem_cons.1 hq with rfl | hq
        · have := hK p (by simp); simp; omega
        · exact hK q (by simp [hq])
  · exact ⟨by simp; omega, by simp, Nat.le_refl _, fun K hK => hK⟩
end Go.Proofs.YtgbcmjbiddkldaaDoor.Given
