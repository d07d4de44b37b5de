/- A loop over steps, over any reader of parts: what it holds, and what stays of it; no condition. -/
import Derived.Test.YtgbcmjbiddkldaaDoorSt
namespace Go.Proofs.YtgbcmjbiddkldaaDoor.Given
open Go.RowKit Go.Proofs.YtgbcmjbiddkldaaDoorW.PrintWords Go.Proofs.YtgbcmjbiddkldaaDoor.PR Go.Proofs.YtgbcmjbiddkldaaDoor.Pl
set_option linter.unusedVariables false
set_option linter.unusedSimpArgs false

def nilV : Value := .slice none 0 0
theorem nilV_own : nilV.ownBlock = none := rfl
/-- All stays but block D, and what holds readers (T: the outer one's type) above M. -/
structure FrT (T : TypeId) (M D : Nat) (w w' : World) : Prop where
  os : w'.os = w.os
  tape : w'.tape = w.tape
  output : w'.output = w.output
  size : w.heap.size ≤ w'.heap.size
  block : ∀ k, k < w.heap.size → k ≠ D → (k < M ∨ ∃ cur t, w.heap[k]? = some (.cells cur t (0, 0)) ∧ t ≠ 52 ∧ t ≠ 29 ∧ t ≠ T) → w'.heap[k]? = w.heap[k]?
/-- What R says hangs on the readers' blocks alone. -/
def Steady {S : Type} (T : TypeId) (M : Nat) (R : World → S → Prop) : Prop :=
  ∀ (w w' : World) (st : S), R w st → (∀ k, (k < M ∨ ∃ c t, w.heap[k]? = some (.cells c t (0, 0)) ∧ (t = 52 ∨ t = 29 ∨ t = T)) → w'.heap[k]? = w.heap[k]?) → R w' st
structure LpG {S : Type} (M : Nat) (R : World → S → Prop) (w0 w : World) (a : Addr) (st : S) (v : Value) (l : List (Value × Ans)) : Prop where
  rr : R w st
  out : Outs w M nilV v l
  la : LaidE w a M
  bel : Below M w0 w
theorem LpG.grow {S : Type} {T : TypeId} {M : Nat} {R : World → S → Prop} (hS : Steady T M R) {w0 w w' : World} {a : Addr} {st : S} {v : Value} {l : List (Value × Ans)} (h : LpG M R w0 w a st v l) (hM : M ≤ w.heap.size) (hb : Below w.heap.size w w') : LpG M R w0 w' a st v l :=
  ⟨hS _ _ _ h.rr (fun k hk => hb.block k (by
    rcases hk with hk | ⟨c, t, hc, _⟩
    · omega
    · exact ltH hc)), h.out.moved (fun k _ hk _ _ => hb.block k hk) (fun k e => by cases e) (.inl rfl), h.la.below (fun k hk => hb.block k (by omega)) hb.size, h.bel.trans (hb.mono hM)⟩
theorem LpG.append {S : Type} {T : TypeId} {M : Nat} {R : World → S → Prop} (hS : Steady T M R) (hT : T ≠ 34) {w0 w w' : World} {a : Addr} {st : S} {v v' dv : Value} {x : Ans} {l : List (Value × Ans)} (h : LpG M R w0 w a st v l) (hM : M ≤ w.heap.size) (hd : DataAt w M nilV dv x.data)
    (ho : w'.ownsRow M 34 3 v' (l.length + 1) (flatO l ++ [dv, .int .i64 x.at_, .int .i64 x.err])) (hg : w.grownBy w' v.ownBlock) : LpG M R w0 w' a st v' (l ++ [(dv, x)]) := by
  have hne : ∀ (k : Nat) (c : Array Value) (t : TypeId), w.heap[k]? = some (.cells c t (0, 0)) → t ≠ 34 → w'.heap[k]? = w.heap[k]? := fun k c t hc ht => hg.block k (ltH hc) (own_ne h.out.own hc (fun e => ht e.symm))
  have hlow : ∀ k, k < M → w'.heap[k]? = w.heap[k]? := fun k hk => hg.block k (by omega) (fun e => by have := own_base h.out.own k e.symm; omega)
  have hd5 : ∀ k, M ≤ k → k < w.heap.size → (∃ cur, w.heap[k]? = some (.cells cur 5 (0, 0))) → some k ≠ nilV.ownBlock → w'.heap[k]? = w.heap[k]? := fun k _ _ hc _ => by
    obtain ⟨cur, hc⟩ := hc
    exact hne k cur 5 hc (by decide)
  refine ⟨hS _ _ _ h.rr (fun k hk => ?_), ⟨by rw [List.length_append, flatO_snoc]; exact ho, fun p hp => ?_⟩, h.la.below hlow hg.size, h.bel.trans ⟨hg.os, hg.tape, hg.output, hg.size, hlow⟩⟩
  · rcases hk with hk | ⟨c, t, hc, ht⟩
    · exact hlow k hk
    · exact hne k c t hc (by rcases ht with ht | ht | ht <;> rw [ht] <;> first | decide | exact hT)
  · rcases List.mem_append.1 hp with hp | hp
    · exact (h.out.data p hp).moved hd5 (.inl rfl)
    · rw [List.mem_singleton.1 hp]
      exact hd.moved hd5 (.inl rfl)
theorem LpG.read {S : Type} {T : TypeId} {M D : Nat} {R : World → S → Prop} (hT : T ≠ 34 ∧ T ≠ 5) {w0 w w' : World} {a : Addr} {st st' : S} {v : Value} {l : List (Value × Ans)} (h : LpG M R w0 w a st v l) (hM : M ≤ w.heap.size) (hMD : M ≤ D) (hD34 : ∀ p ∈ l, p.1.ownBlock ≠ some D) (hDo : v.ownBlock ≠ some D)
    (hr : R w' st') (hF : FrT T M D w w') : LpG M R w0 w' a st' v l := by
  have hlow : ∀ k, k < M → w'.heap[k]? = w.heap[k]? := fun k hk => hF.block k (by omega) (by omega) (.inl hk)
  refine ⟨hr, ⟨own_move h.out.own (fun k e => ?_), fun p hp => ?_⟩, h.la.below hlow hF.size, h.bel.trans ⟨hF.os, hF.tape, hF.output, hF.size, hlow⟩⟩
  · obtain ⟨c, hc⟩ := own_typed h.out.own k e
    exact hF.block k (ltH hc) (fun e' => hDo (by rw [e, e'])) (.inr ⟨c, 34, hc, by decide, by decide, fun e => hT.1 e.symm⟩)
  · obtain ⟨A, c, e, h1, h2, h3⟩ := h.out.data p hp
    have key : ∀ k, p.1.ownBlock = some k → w'.heap[k]? = w.heap[k]? := fun k hk => by
      obtain ⟨q1, ⟨cur, q2⟩, q3⟩ := h2 k hk
      exact hF.block k (ltH q2) (fun e' => hD34 p hp (by rw [hk, e'])) (.inr ⟨cur, 5, q2, by decide, by decide, fun e => hT.2 e.symm⟩)
    refine ⟨A, c, e, h1, fun k hk => ?_, fun j x hj => ?_⟩
    · obtain ⟨q1, ⟨cur, q2⟩, q3⟩ := h2 k hk
      exact ⟨q1, ⟨cur, (key k hk).trans q2⟩, q3⟩
    · obtain ⟨x', rfl, h4⟩ := h3 j x hj
      exact ⟨x', rfl, (cell_kept (key _ (by rw [e]; rfl))).trans h4⟩
theorem LpG.only {S : Type} {T : TypeId} {M B : Nat} {R : World → S → Prop} (hT : T ≠ 34 ∧ T ≠ 5) {w0 w w' : World} {a : Addr} {st st' : S} {v : Value} {l : List (Value × Ans)} (h : LpG M R w0 w a st v l) (hM : M ≤ w.heap.size) {c0 : Array Value} (hB : w.heap[B]? = some (.cells c0 T (0, 0))) (hMB : M ≤ B) (hr : R w' st') (hF : Only B w w') : LpG M R w0 w' a st' v l := by
  have hlow : ∀ k, k < M → w'.heap[k]? = w.heap[k]? := fun k hk => hF.block k (by omega) (by omega)
  exact ⟨hr, h.out.moved (fun k _ h2 h3 _ => hF.block k h2 (fun e => by subst e; obtain ⟨c, t, hc, ht⟩ := h3; rw [hB] at hc; cases hc; rcases ht with ht | ht; exact hT.2 ht; exact hT.1 ht)) (fun k e => by cases e) (.inl rfl), h.la.below hlow hF.size, h.bel.trans ⟨hF.os, hF.tape, hF.output, hF.size, hlow⟩⟩
theorem LpG.at34 {S : Type} {T : TypeId} {M k0 : Nat} {R : World → S → Prop} (hS : Steady T M R) (hT : T ≠ 34) {w0 w w' : World} {a : Addr} {st : S} {v : Value} {l : List (Value × Ans)} (h : LpG M R w0 w a st v l) (hM : M ≤ w.heap.size) {c0 : Array Value} (hk0 : w.heap[k0]? = some (.cells c0 34 (0, 0))) (hMk : M ≤ k0) (hno : ∀ k, v.ownBlock = some k → k < k0) (hs : Only k0 w w') : LpG M R w0 w' a st v l := by
  have hne : ∀ (k : Nat) (c : Array Value) (t : TypeId), w.heap[k]? = some (.cells c t (0, 0)) → t ≠ 34 → w'.heap[k]? = w.heap[k]? := fun k c t hc ht => hs.block k (ltH hc) (fun e => by subst e; rw [hk0] at hc; cases hc; exact ht rfl)
  have hlow : ∀ k, k < M → w'.heap[k]? = w.heap[k]? := fun k hk => hs.block k (by omega) (by omega)
  refine ⟨hS _ _ _ h.rr (fun k hk => ?_), ⟨own_move h.out.own (fun k e => hs.block k (own_lt h.out.own k e) (by have := hno k e; omega)), fun p hp => (h.out.data p hp).moved (fun k _ _ hc _ => by obtain ⟨cur, hc⟩ := hc; exact hne k cur 5 hc (by decide)) (.inl rfl)⟩, h.la.below hlow hs.size, h.bel.trans ⟨hs.os, hs.tape, hs.output, hs.size, hlow⟩⟩
  rcases hk with hk | ⟨c, t, hc, ht⟩
  · exact hlow k hk
  · exact hne k c t hc (by rcases ht with ht | ht | ht <;> rw [ht] <;> first | decide | exact hT)
end Go.Proofs.YtgbcmjbiddkldaaDoor.Given
