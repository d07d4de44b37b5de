/- The contract of Ranges.search: of a row of ranges that rise, the first place whose range begins at the asked one or behind it. Conditions: the row reads as such, rises, and is shorter than 2^62. -/
import Derived.Test.YtmkhkkfliecfdaaCoal
import Derived.Shelf.SlSorted.Search
namespace Go.Proofs.Ytmkhkkfliecfdaa.Given
open Go.RowKit Go.Lib Go.Shelf Go.Sort
set_option linter.unusedVariables false
set_option linter.unusedSimpArgs false

def srchRen : Go.Shelf.Ren := ⟨fun n => if n = 16 then 54 else n, fun n => if n = 35 then 78 else if n = 38 then 79 else n, fun n => n⟩
theorem srchLay : SlLaysO.n16 Try.prog srchRen := {
  mixed := by kernel_rfl
  f16 := by kernel_rfl
  t3 := by kernel_rfl
  a3 := fun _ => by kernel_rfl
  z3 := fun _ => by kernel_rfl
  v3 := fun _ => by kernel_rfl
  t4 := by kernel_rfl
  a4 := fun _ => by kernel_rfl
  z4 := fun _ => by kernel_rfl
  v4 := fun _ => by kernel_rfl
  t35 := by kernel_rfl
  a35 := fun _ => by kernel_rfl
  z35 := fun _ => by kernel_rfl
  v35 := fun _ => by kernel_rfl
  t38 := by kernel_rfl
  a38 := fun _ => by kernel_rfl
  z38 := fun _ => by kernel_rfl
  v38 := fun _ => by kernel_rfl }

set_option maxHeartbeats 1000000 in
theorem clos_any (b1 b2 : Nat) (a : Addr) (n cap k : Nat) (p s x : Int) (w : World) (h1 : w.cell? ⟨b1, 0, none⟩ = some (.slice (some a) n cap)) (h2 : w.cell? ⟨b2, 0, none⟩ = some (.int .i64 p))
    (h3 : w.cell? (a.add (k * 2)) = some (.int .i64 x)) (hk : k < n) :
    Calls Try.prog 55 #[.int .i64 k, .pointer (some ⟨b1, 0, none⟩), .pointer (some ⟨b2, 0, none⟩)] w fun e w' => e = .returned (.bool (decide (p ≤ x))) ∧ ∃ q, w' = w.drewN q := by
  have hk' : (k : Int) < (n : Int) := by omega
  go_enter Try.func55, Try.ntmps55
  go_wp2
  go_region
  all_goals go_wp2
  all_goals go_ret
  all_goals exact ⟨rfl, 1, rfl⟩
theorem cnt_range (f : Nat → Bool) : ∀ (n k : Nat), k ≤ n → (∀ i, i < k → f i = true) → (∀ i, k ≤ i → i < n → f i = false) → (List.range n).countP f = k
  | 0, k, hk, _, _ => by simp; omega
  | n + 1, k, hk, h1, h2 => by
    rw [List.range_succ, List.countP_append]
    by_cases e : k = n + 1
    · subst e
      rw [cnt_range f n n (Nat.le_refl _) (fun i hi => h1 i (by omega)) (fun i a b => by omega)]
      simp [h1 n (by omega)]
    · rw [cnt_range f n k (by omega) h1 (fun i a b => h2 i a (by omega))]
      simp [h2 n (by omega) (by omega)]
theorem srch_cnt (L : List (Int × Int)) (p : Int) (hs : ∀ i j, i ≤ j → j < L.length → (at_ L i).1 ≤ (at_ L j).1) :
    (List.range L.length).countP (fun i => !(decide (p ≤ (at_ L i).1))) = srch L p := by
  obtain ⟨A, B, rfl, he, hA, hB⟩ := srch_split L p
  rw [he]
  have ha : ∀ i (h : i < A.length), at_ (A ++ B) i = A[i] := fun i h => by simp [at_, List.getElem?_append_left h, h]
  refine cnt_range _ _ _ (by simp) (fun i hi => ?_) (fun i h1 h2 => ?_)
  · have := hA _ (List.getElem_mem hi)
    rw [ha i hi]
    simp; omega
  · cases B with
    | nil => simp at h2; omega
    | cons b bs =>
      have h3 := hs A.length i h1 h2
      rw [at_mid] at h3
      have := hB b rfl
      simp; omega
set_option maxHeartbeats 1000000 in
theorem search_any (A : Option Addr) (cap : Nat) (L : List (Int × Int)) (p s : Int) (w : World) (hn : L.length < 4611686018427387904)
    (hc : ∀ i, i < L.length → ∃ a, A = some a ∧ w.cell? (a.add (i * 2)) = some (.int .i64 (at_ L i).1)) (hs : ∀ i j, i ≤ j → j < L.length → (at_ L i).1 ≤ (at_ L j).1) :
    Calls Try.prog 51 #[.slice A L.length cap, .agg #[.int .i64 p, .int .i64 s]] w fun e w' => e = .returned (.int .i64 (srch L p)) ∧ Below w.heap.size w w' := by
  have key : Calls Try.prog 54 #[.int .i64 L.length, .func (.func 55) #[] #[.pointer (some ⟨w.heap.size, 0, none⟩), .pointer (some ⟨w.heap.size + 1, 0, none⟩)]] ((w.alloc (.cells #[.slice A L.length cap] 51)).alloc (.cells #[.int .i64 p, .int .i64 s] 48))
      fun e w' => e = .returned (.int .i64 (srch L p)) ∧ Below w.heap.size w w' := by
    have h := Any.sort_Search srchLay 55 #[.pointer (some ⟨w.heap.size, 0, none⟩), .pointer (some ⟨w.heap.size + 1, 0, none⟩)] L.length (fun i => decide (p ≤ (at_ L i).1)) ((w.alloc (.cells #[.slice A L.length cap] 51)).alloc (.cells #[.int .i64 p, .int .i64 s] 48))
      (fun args w => by kernel_rfl) hn (fun m os i hi => by
        obtain ⟨a, rfl, ha⟩ := hc i hi
        refine (clos_any w.heap.size (w.heap.size + 1) a L.length cap i p s (at_ L i).1 _ ?_ ?_ ?_ hi).mono ?_
        · refine cell_grown (by simp; omega) ?_ m os
          exact cell_alloc_sl _ (by have := cell_new_sl w (.slice (some a) L.length cap) 51; exact this)
        · refine cell_grown (by simp) ?_ m os
          rw [World.cell?_alloc_at _ _ _ _ (by simp)]; rfl
        · have hb := World.block_lt_of_cell? _ _ ha
          refine cell_grown (by simp; omega) ?_ m os
          exact cell_alloc_sl _ (cell_alloc_sl _ ha)
        · rintro e w' ⟨rfl, q, rfl⟩
          exact ⟨rfl, q, #[], by rw [grow_empty]⟩)
      (fun a b hab hb ha => by
        have := hs a b hab hb
        have h1 := of_decide_eq_true ha
        exact decide_eq_true (by omega))
    rw [srch_cnt L p hs] at h
    refine h.mono ?_
    rintro e w' ⟨rfl, q, os, rfl⟩
    refine ⟨rfl, (((Below.refl w.heap.size w).alloc (Nat.le_refl _) _).alloc (by simp) _).trans (below_grown_sl _ _ q os (by simp; omega))⟩
  have K := Lib.hid key
  clear key hc hs
  have hn' : (L.length : Int) ≤ 9223372036854775807 := by omega
  go_enter Try.func51, Try.ntmps51
  go_wp2_with (go_at_call 54; refine K.out.mono ?_; rintro e w' ⟨rfl, hb⟩)
  go_ret
  exact ⟨rfl, hb⟩
theorem abv_sorted : ∀ {L : List (Int × Int)} {p : Int}, Abv p L → ∀ i j, i ≤ j → j < L.length → (at_ L i).1 ≤ (at_ L j).1
  | [], _, _, i, j, _, h => by simp at h
  | x :: L, p, ⟨h1, h2, h3⟩, i, j, hij, hj => by
    cases j with
    | zero => obtain rfl : i = 0 := by omega
              exact Int.le_refl _
    | succ j =>
      cases i with
      | zero =>
        have hjl : j < L.length := by simpa using hj
        show x.1 ≤ (at_ L j).1
        have := abv_lo h3 j hjl
        omega
      | succ i => exact abv_sorted h3 i j (by omega) (by simpa using hj)
where
  abv_lo : ∀ {L : List (Int × Int)} {p : Int}, Abv p L → ∀ j, j < L.length → p < (at_ L j).1
  | [], _, _, j, h => by simp at h
  | x :: L, p, ⟨h1, h2, h3⟩, j, hj => by
    cases j with
    | zero => exact h1
    | succ j =>
      have := abv_lo h3 j (by simpa using hj)
      show p < (at_ L j).1
      omega
end Go.Proofs.Ytmkhkkfliecfdaa.Given
