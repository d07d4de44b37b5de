/- The contracts of newS3 and newDefault: a new calculator of options, with the defaults in the place of those that are not given. -/
import Derived.Test.YtgdjplpbpknfmaaOpt
namespace Go.Proofs.Ytgdjplpbpknfmaa.Given
open Go.RowKit
set_option linter.unusedVariables false
set_option linter.unusedSimpArgs false
set_option maxRecDepth 100000 in
set_option maxHeartbeats 1000000 in
theorem mkS3 (w : World) :
    Calls Try.prog 26 #[.slice none 0 0] w fun e w' => e = .returned (.pointer (some ⟨w.heap.size, 0, none⟩)) ∧ w' = w.alloc (.cells #[.int .i64 0, .int .i64 2000000000, .int .u64 2, .int .u64 1] 67) := by
  go_enter Try.func26, Try.ntmps26
  go_wp2_with (go_at_call 27; refine (s3_upd0 _ _).mono ?_; rintro e w' ⟨rfl, rfl⟩)
  go_ret
  exact ⟨rfl, rfl⟩
set_option maxRecDepth 100000 in
set_option maxHeartbeats 1000000 in
theorem mkDf (w : World) :
    Calls Try.prog 34 #[.slice none 0 0] w fun e w' => e = .returned (.pointer (some ⟨w.heap.size, 0, none⟩)) ∧ w' = w.alloc (.cells #[.int .i64 10000000, .int .i64 2000000000, .int .u64 2, .int .u64 1] 90) := by
  go_enter Try.func34, Try.ntmps34
  go_wp2_with (go_at_call 35; refine (df_upd0 _ _).mono ?_; rintro e w' ⟨rfl, rfl⟩)
  go_ret
  exact ⟨rfl, rfl⟩

def gv (x d : Int) : Int := if 0 ≤ x then x else d
theorem gv_pos {x d : Int} (h : 0 ≤ x) : gv x d = x := by unfold gv; rw [if_pos h]
theorem gv_neg {x d : Int} (h : ¬ 0 ≤ x) : gv x d = d := by unfold gv; rw [if_neg h]
theorem heap_at (w : World) (o : Obj) (k : Nat) : (w.alloc o).heap[k]? = if k = w.heap.size then some o else w.heap[k]? := by
  show (w.heap.push o)[k]? = _
  rw [Array.getElem?_push]

set_option maxRecDepth 100000 in
set_option maxHeartbeats 4000000 in
theorem s3_new_1111 (mn mx d a : Int) (w : World) (hd : d ≤ 16) (ha : a ≤ 16) (h1 : 0 ≤ mn) (h2 : 0 ≤ mx) (h3 : 0 ≤ d) (h4 : 0 ≤ a) :
    Calls Try.prog 19 #[.agg #[.int .i64 mn, .int .i64 mx, .int .i64 d, .int .i64 a]] w fun e w' => e = .returned (.pointer (some ⟨w.heap.size + 1, 0, none⟩)) ∧ Calc w' 67 (w.heap.size + 1) mn mx d a ∧ Below w.heap.size w w' := by
  go_enter Try.func19, Try.ntmps19
  go_wp2_with (go_at_call 26; refine (mkS3 _).mono ?_; rintro e w' ⟨rfl, rfl⟩)
  refine (s3_upd60 _ _ mn _ ?_ (.int .i64 0) ?_ ?_).mono ?_
  · simp [go_sem]
  · simp [go_sem]
  · simp [go_sem]
  rintro e w' ⟨rfl, rfl⟩
  go_wp2_with fail
  refine (s3_upd61 _ _ mx _ ?_ (.int .i64 2000000000) ?_ ?_).mono ?_
  · simp [go_sem]
  · simp [go_sem]
  · simp [go_sem]
  rintro e w' ⟨rfl, rfl⟩
  go_wp2_with fail
  refine (s3_upd62 _ _ d _ ?_ (.int .u64 2) ?_ ?_).mono ?_
  · simp [go_sem]
  · simp [go_sem]
  · simp [go_sem]
  rintro e w' ⟨rfl, rfl⟩
  go_wp2_with fail
  refine (s3_upd63 _ _ a _ ?_ (.int .u64 1) ?_ ?_).mono ?_
  · simp [go_sem]
  · simp [go_sem]
  · simp [go_sem]
  rintro e w' ⟨rfl, rfl⟩
  go_wp2_with fail
  go_ret
  exact ⟨rfl, by unfold Calc; simp only [heap_at, World.size_alloc]; repeat (first | rw [if_pos trivial] | rw [if_neg (by omega)] | rw [if_pos (by omega)]), ((((((Below.refl _ _).alloc (Nat.le_refl _) _).alloc (by simp) _).alloc (by simp only [World.size_alloc]; omega) _).alloc (by simp only [World.size_alloc]; omega) _).alloc (by simp only [World.size_alloc]; omega) _).alloc (by simp only [World.size_alloc]; omega) _⟩

set_option maxRecDepth 100000 in
set_option maxHeartbeats 4000000 in
theorem s3_new_1110 (mn mx d a : Int) (w : World) (hd : d ≤ 16) (ha : a ≤ 16) (h1 : 0 ≤ mn) (h2 : 0 ≤ mx) (h3 : 0 ≤ d) (h4 : ¬ 0 ≤ a) :
    Calls Try.prog 19 #[.agg #[.int .i64 mn, .int .i64 mx, .int .i64 d, .int .i64 a]] w fun e w' => e = .returned (.pointer (some ⟨w.heap.size + 1, 0, none⟩)) ∧ Calc w' 67 (w.heap.size + 1) mn mx d 1 ∧ Below w.heap.size w w' := by
  go_enter Try.func19, Try.ntmps19
  go_wp2_with (go_at_call 26; refine (mkS3 _).mono ?_; rintro e w' ⟨rfl, rfl⟩)
  refine (s3_upd60 _ _ mn _ ?_ (.int .i64 0) ?_ ?_).mono ?_
  · simp [go_sem]
  · simp [go_sem]
  · simp [go_sem]
  rintro e w' ⟨rfl, rfl⟩
  go_wp2_with fail
  refine (s3_upd61 _ _ mx _ ?_ (.int .i64 2000000000) ?_ ?_).mono ?_
  · simp [go_sem]
  · simp [go_sem]
  · simp [go_sem]
  rintro e w' ⟨rfl, rfl⟩
  go_wp2_with fail
  refine (s3_upd62 _ _ d _ ?_ (.int .u64 2) ?_ ?_).mono ?_
  · simp [go_sem]
  · simp [go_sem]
  · simp [go_sem]
  rintro e w' ⟨rfl, rfl⟩
  go_wp2_with fail
  go_ret
  exact ⟨rfl, by unfold Calc; simp only [heap_at, World.size_alloc]; repeat (first | rw [if_pos trivial] | rw [if_neg (by omega)] | rw [if_pos (by omega)]), (((((Below.refl _ _).alloc (Nat.le_refl _) _).alloc (by simp) _).alloc (by simp only [World.size_alloc]; omega) _).alloc (by simp only [World.size_alloc]; omega) _).alloc (by simp only [World.size_alloc]; omega) _⟩

set_option maxRecDepth 100000 in
set_option maxHeartbeats 4000000 in
theorem s3_new_1101 (mn mx d a : Int) (w : World) (hd : d ≤ 16) (ha : a ≤ 16) (h1 : 0 ≤ mn) (h2 : 0 ≤ mx) (h3 : ¬ 0 ≤ d) (h4 : 0 ≤ a) :
    Calls Try.prog 19 #[.agg #[.int .i64 mn, .int .i64 mx, .int .i64 d, .int .i64 a]] w fun e w' => e = .returned (.pointer (some ⟨w.heap.size + 1, 0, none⟩)) ∧ Calc w' 67 (w.heap.size + 1) mn mx 2 a ∧ Below w.heap.size w w' := by
  go_enter Try.func19, Try.ntmps19
  go_wp2_with (go_at_call 26; refine (mkS3 _).mono ?_; rintro e w' ⟨rfl, rfl⟩)
  refine (s3_upd60 _ _ mn _ ?_ (.int .i64 0) ?_ ?_).mono ?_
  · simp [go_sem]
  · simp [go_sem]
  · simp [go_sem]
  rintro e w' ⟨rfl, rfl⟩
  go_wp2_with fail
  refine (s3_upd61 _ _ mx _ ?_ (.int .i64 2000000000) ?_ ?_).mono ?_
  · simp [go_sem]
  · simp [go_sem]
  · simp [go_sem]
  rintro e w' ⟨rfl, rfl⟩
  go_wp2_with fail
  refine (s3_upd63 _ _ a _ ?_ (.int .u64 1) ?_ ?_).mono ?_
  · simp [go_sem]
  · simp [go_sem]
  · simp [go_sem]
  rintro e w' ⟨rfl, rfl⟩
  go_wp2_with fail
  go_ret
  exact ⟨rfl, by unfold Calc; simp only [heap_at, World.size_alloc]; repeat (first | rw [if_pos trivial] | rw [if_neg (by omega)] | rw [if_pos (by omega)]), (((((Below.refl _ _).alloc (Nat.le_refl _) _).alloc (by simp) _).alloc (by simp only [World.size_alloc]; omega) _).alloc (by simp only [World.size_alloc]; omega) _).alloc (by simp only [World.size_alloc]; omega) _⟩

set_option maxRecDepth 100000 in
set_option maxHeartbeats 4000000 in
theorem s3_new_1100 (mn mx d a : Int) (w : World) (hd : d ≤ 16) (ha : a ≤ 16) (h1 : 0 ≤ mn) (h2 : 0 ≤ mx) (h3 : ¬ 0 ≤ d) (h4 : ¬ 0 ≤ a) :
    Calls Try.prog 19 #[.agg #[.int .i64 mn, .int .i64 mx, .int .i64 d, .int .i64 a]] w fun e w' => e = .returned (.pointer (some ⟨w.heap.size + 1, 0, none⟩)) ∧ Calc w' 67 (w.heap.size + 1) mn mx 2 1 ∧ Below w.heap.size w w' := by
  go_enter Try.func19, Try.ntmps19
  go_wp2_with (go_at_call 26; refine (mkS3 _).mono ?_; rintro e w' ⟨rfl, rfl⟩)
  refine (s3_upd60 _ _ mn _ ?_ (.int .i64 0) ?_ ?_).mono ?_
  · simp [go_sem]
  · simp [go_sem]
  · simp [go_sem]
  rintro e w' ⟨rfl, rfl⟩
  go_wp2_with fail
  refine (s3_upd61 _ _ mx _ ?_ (.int .i64 2000000000) ?_ ?_).mono ?_
  · simp [go_sem]
  · simp [go_sem]
  · simp [go_sem]
  rintro e w' ⟨rfl, rfl⟩
  go_wp2_with fail
  go_ret
  exact ⟨rfl, by unfold Calc; simp only [heap_at, World.size_alloc]; repeat (first | rw [if_pos trivial] | rw [if_neg (by omega)] | rw [if_pos (by omega)]), ((((Below.refl _ _).alloc (Nat.le_refl _) _).alloc (by simp) _).alloc (by simp only [World.size_alloc]; omega) _).alloc (by simp only [World.size_alloc]; omega) _⟩

set_option maxRecDepth 100000 in
set_option maxHeartbeats 4000000 in
theorem s3_new_1011 (mn mx d a : Int) (w : World) (hd : d ≤ 16) (ha : a ≤ 16) (h1 : 0 ≤ mn) (h2 : ¬ 0 ≤ mx) (h3 : 0 ≤ d) (h4 : 0 ≤ a) :
    Calls Try.prog 19 #[.agg #[.int .i64 mn, .int .i64 mx, .int .i64 d, .int .i64 a]] w fun e w' => e = .returned (.pointer (some ⟨w.heap.size + 1, 0, none⟩)) ∧ Calc w' 67 (w.heap.size + 1) mn 2000000000 d a ∧ Below w.heap.size w w' := by
  go_enter Try.func19, Try.ntmps19
  go_wp2_with (go_at_call 26; refine (mkS3 _).mono ?_; rintro e w' ⟨rfl, rfl⟩)
  refine (s3_upd60 _ _ mn _ ?_ (.int .i64 0) ?_ ?_).mono ?_
  · simp [go_sem]
  · simp [go_sem]
  · simp [go_sem]
  rintro e w' ⟨rfl, rfl⟩
  go_wp2_with fail
  refine (s3_upd62 _ _ d _ ?_ (.int .u64 2) ?_ ?_).mono ?_
  · simp [go_sem]
  · simp [go_sem]
  · simp [go_sem]
  rintro e w' ⟨rfl, rfl⟩
  go_wp2_with fail
  refine (s3_upd63 _ _ a _ ?_ (.int .u64 1) ?_ ?_).mono ?_
  · simp [go_sem]
  · simp [go_sem]
  · simp [go_sem]
  rintro e w' ⟨rfl, rfl⟩
  go_wp2_with fail
  go_ret
  exact ⟨rfl, by unfold Calc; simp only [heap_at, World.size_alloc]; repeat (first | rw [if_pos trivial] | rw [if_neg (by omega)] | rw [if_pos (by omega)]), (((((Below.refl _ _).alloc (Nat.le_refl _) _).alloc (by simp) _).alloc (by simp only [World.size_alloc]; omega) _).alloc (by simp only [World.size_alloc]; omega) _).alloc (by simp only [World.size_alloc]; omega) _⟩

set_option maxRecDepth 100000 in
set_option maxHeartbeats 4000000 in
theorem s3_new_1010 (mn mx d a : Int) (w : World) (hd : d ≤ 16) (ha : a ≤ 16) (h1 : 0 ≤ mn) (h2 : ¬ 0 ≤ mx) (h3 : 0 ≤ d) (h4 : ¬ 0 ≤ a) :
    Calls Try.prog 19 #[.agg #[.int .i64 mn, .int .i64 mx, .int .i64 d, .int .i64 a]] w fun e w' => e = .returned (.pointer (some ⟨w.heap.size + 1, 0, none⟩)) ∧ Calc w' 67 (w.heap.size + 1) mn 2000000000 d 1 ∧ Below w.heap.size w w' := by
  go_enter Try.func19, Try.ntmps19
  go_wp2_with (go_at_call 26; refine (mkS3 _).mono ?_; rintro e w' ⟨rfl, rfl⟩)
  refine (s3_upd60 _ _ mn _ ?_ (.int .i64 0) ?_ ?_).mono ?_
  · simp [go_sem]
  · simp [go_sem]
  · simp [go_sem]
  rintro e w' ⟨rfl, rfl⟩
  go_wp2_with fail
  refine (s3_upd62 _ _ d _ ?_ (.int .u64 2) ?_ ?_).mono ?_
  · simp [go_sem]
  · simp [go_sem]
  · simp [go_sem]
  rintro e w' ⟨rfl, rfl⟩
  go_wp2_with fail
  go_ret
  exact ⟨rfl, by unfold Calc; simp only [heap_at, World.size_alloc]; repeat (first | rw [if_pos trivial] | rw [if_neg (by omega)] | rw [if_pos (by omega)]), ((((Below.refl _ _).alloc (Nat.le_refl _) _).alloc (by simp) _).alloc (by simp only [World.size_alloc]; omega) _).alloc (by simp only [World.size_alloc]; omega) _⟩

set_option maxRecDepth 100000 in
set_option maxHeartbeats 4000000 in
theorem s3_new_1001 (mn mx d a : Int) (w : World) (hd : d ≤ 16) (ha : a ≤ 16) (h1 : 0 ≤ mn) (h2 : ¬ 0 ≤ mx) (h3 : ¬ 0 ≤ d) (h4 : 0 ≤ a) :
    Calls Try.prog 19 #[.agg #[.int .i64 mn, .int .i64 mx, .int .i64 d, .int .i64 a]] w fun e w' => e = .returned (.pointer (some ⟨w.heap.size + 1, 0, none⟩)) ∧ Calc w' 67 (w.heap.size + 1) mn 2000000000 2 a ∧ Below w.heap.size w w' := by
  go_enter Try.func19, Try.ntmps19
  go_wp2_with (go_at_call 26; refine (mkS3 _).mono ?_; rintro e w' ⟨rfl, rfl⟩)
  refine (s3_upd60 _ _ mn _ ?_ (.int .i64 0) ?_ ?_).mono ?_
  · simp [go_sem]
  · simp [go_sem]
  · simp [go_sem]
  rintro e w' ⟨rfl, rfl⟩
  go_wp2_with fail
  refine (s3_upd63 _ _ a _ ?_ (.int .u64 1) ?_ ?_).mono ?_
  · simp [go_sem]
  · simp [go_sem]
  · simp [go_sem]
  rintro e w' ⟨rfl, rfl⟩
  go_wp2_with fail
  go_ret
  exact ⟨rfl, by unfold Calc; simp only [heap_at, World.size_alloc]; repeat (first | rw [if_pos trivial] | rw [if_neg (by omega)] | rw [if_pos (by omega)]), ((((Below.refl _ _).alloc (Nat.le_refl _) _).alloc (by simp) _).alloc (by simp only [World.size_alloc]; omega) _).alloc (by simp only [World.size_alloc]; omega) _⟩

set_option maxRecDepth 100000 in
set_option maxHeartbeats 4000000 in
theorem s3_new_1000 (mn mx d a : Int) (w : World) (hd : d ≤ 16) (ha : a ≤ 16) (h1 : 0 ≤ mn) (h2 : ¬ 0 ≤ mx) (h3 : ¬ 0 ≤ d) (h4 : ¬ 0 ≤ a) :
    Calls Try.prog 19 #[.agg #[.int .i64 mn, .int .i64 mx, .int .i64 d, .int .i64 a]] w fun e w' => e = .returned (.pointer (some ⟨w.heap.size + 1, 0, none⟩)) ∧ Calc w' 67 (w.heap.size + 1) mn 2000000000 2 1 ∧ Below w.heap.size w w' := by
  go_enter Try.func19, Try.ntmps19
  go_wp2_with (go_at_call 26; refine (mkS3 _).mono ?_; rintro e w' ⟨rfl, rfl⟩)
  refine (s3_upd60 _ _ mn _ ?_ (.int .i64 0) ?_ ?_).mono ?_
  · simp [go_sem]
  · simp [go_sem]
  · simp [go_sem]
  rintro e w' ⟨rfl, rfl⟩
  go_wp2_with fail
  go_ret
  exact ⟨rfl, by unfold Calc; simp only [heap_at, World.size_alloc]; repeat (first | rw [if_pos trivial] | rw [if_neg (by omega)] | rw [if_pos (by omega)]), (((Below.refl _ _).alloc (Nat.le_refl _) _).alloc (by simp) _).alloc (by simp only [World.size_alloc]; omega) _⟩

set_option maxRecDepth 100000 in
set_option maxHeartbeats 4000000 in
theorem s3_new_0111 (mn mx d a : Int) (w : World) (hd : d ≤ 16) (ha : a ≤ 16) (h1 : ¬ 0 ≤ mn) (h2 : 0 ≤ mx) (h3 : 0 ≤ d) (h4 : 0 ≤ a) :
    Calls Try.prog 19 #[.agg #[.int .i64 mn, .int .i64 mx, .int .i64 d, .int .i64 a]] w fun e w' => e = .returned (.pointer (some ⟨w.heap.size + 1, 0, none⟩)) ∧ Calc w' 67 (w.heap.size + 1) 0 mx d a ∧ Below w.heap.size w w' := by
  go_enter Try.func19, Try.ntmps19
  go_wp2_with (go_at_call 26; refine (mkS3 _).mono ?_; rintro e w' ⟨rfl, rfl⟩)
  refine (s3_upd61 _ _ mx _ ?_ (.int .i64 2000000000) ?_ ?_).mono ?_
  · simp [go_sem]
  · simp [go_sem]
  · simp [go_sem]
  rintro e w' ⟨rfl, rfl⟩
  go_wp2_with fail
  refine (s3_upd62 _ _ d _ ?_ (.int .u64 2) ?_ ?_).mono ?_
  · simp [go_sem]
  · simp [go_sem]
  · simp [go_sem]
  rintro e w' ⟨rfl, rfl⟩
  go_wp2_with fail
  refine (s3_upd63 _ _ a _ ?_ (.int .u64 1) ?_ ?_).mono ?_
  · simp [go_sem]
  · simp [go_sem]
  · simp [go_sem]
  rintro e w' ⟨rfl, rfl⟩
  go_wp2_with fail
  go_ret
  exact ⟨rfl, by unfold Calc; simp only [heap_at, World.size_alloc]; repeat (first | rw [if_pos trivial] | rw [if_neg (by omega)] | rw [if_pos (by omega)]), (((((Below.refl _ _).alloc (Nat.le_refl _) _).alloc (by simp) _).alloc (by simp only [World.size_alloc]; omega) _).alloc (by simp only [World.size_alloc]; omega) _).alloc (by simp only [World.size_alloc]; omega) _⟩

set_option maxRecDepth 100000 in
set_option maxHeartbeats 4000000 in
theorem s3_new_0110 (mn mx d a : Int) (w : World) (hd : d ≤ 16) (ha : a ≤ 16) (h1 : ¬ 0 ≤ mn) (h2 : 0 ≤ mx) (h3 : 0 ≤ d) (h4 : ¬ 0 ≤ a) :
    Calls Try.prog 19 #[.agg #[.int .i64 mn, .int .i64 mx, .int .i64 d, .int .i64 a]] w fun e w' => e = .returned (.pointer (some ⟨w.heap.size + 1, 0, none⟩)) ∧ Calc w' 67 (w.heap.size + 1) 0 mx d 1 ∧ Below w.heap.size w w' := by
  go_enter Try.func19, Try.ntmps19
  go_wp2_with (go_at_call 26; refine (mkS3 _).mono ?_; rintro e w' ⟨rfl, rfl⟩)
  refine (s3_upd61 _ _ mx _ ?_ (.int .i64 2000000000) ?_ ?_).mono ?_
  · simp [go_sem]
  · simp [go_sem]
  · simp [go_sem]
  rintro e w' ⟨rfl, rfl⟩
  go_wp2_with fail
  refine (s3_upd62 _ _ d _ ?_ (.int .u64 2) ?_ ?_).mono ?_
  · simp [go_sem]
  · simp [go_sem]
  · simp [go_sem]
  rintro e w' ⟨rfl, rfl⟩
  go_wp2_with fail
  go_ret
  exact ⟨rfl, by unfold Calc; simp only [heap_at, World.size_alloc]; repeat (first | rw [if_pos trivial] | rw [if_neg (by omega)] | rw [if_pos (by omega)]), ((((Below.refl _ _).alloc (Nat.le_refl _) _).alloc (by simp) _).alloc (by simp only [World.size_alloc]; omega) _).alloc (by simp only [World.size_alloc]; omega) _⟩

set_option maxRecDepth 100000 in
set_option maxHeartbeats 4000000 in
theorem s3_new_0101 (mn mx d a : Int) (w : World) (hd : d ≤ 16) (ha : a ≤ 16) (h1 : ¬ 0 ≤ mn) (h2 : 0 ≤ mx) (h3 : ¬ 0 ≤ d) (h4 : 0 ≤ a) :
    Calls Try.prog 19 #[.agg #[.int .i64 mn, .int .i64 mx, .int .i64 d, .int .i64 a]] w fun e w' => e = .returned (.pointer (some ⟨w.heap.size + 1, 0, none⟩)) ∧ Calc w' 67 (w.heap.size + 1) 0 mx 2 a ∧ Below w.heap.size w w' := by
  go_enter Try.func19, Try.ntmps19
  go_wp2_with (go_at_call 26; refine (mkS3 _).mono ?_; rintro e w' ⟨rfl, rfl⟩)
  refine (s3_upd61 _ _ mx _ ?_ (.int .i64 2000000000) ?_ ?_).mono ?_
  · simp [go_sem]
  · simp [go_sem]
  · simp [go_sem]
  rintro e w' ⟨rfl, rfl⟩
  go_wp2_with fail
  refine (s3_upd63 _ _ a _ ?_ (.int .u64 1) ?_ ?_).mono ?_
  · simp [go_sem]
  · simp [go_sem]
  · simp [go_sem]
  rintro e w' ⟨rfl, rfl⟩
  go_wp2_with fail
  go_ret
  exact ⟨rfl, by unfold Calc; simp only [heap_at, World.size_alloc]; repeat (first | rw [if_pos trivial] | rw [if_neg (by omega)] | rw [if_pos (by omega)]), ((((Below.refl _ _).alloc (Nat.le_refl _) _).alloc (by simp) _).alloc (by simp only [World.size_alloc]; omega) _).alloc (by simp only [World.size_alloc]; omega) _⟩

set_option maxRecDepth 100000 in
set_option maxHeartbeats 4000000 in
theorem s3_new_0100 (mn mx d a : Int) (w : World) (hd : d ≤ 16) (ha : a ≤ 16) (h1 : ¬ 0 ≤ mn) (h2 : 0 ≤ mx) (h3 : ¬ 0 ≤ d) (h4 : ¬ 0 ≤ a) :
    Calls Try.prog 19 #[.agg #[.int .i64 mn, .int .i64 mx, .int .i64 d, .int .i64 a]] w fun e w' => e = .returned (.pointer (some ⟨w.heap.size + 1, 0, none⟩)) ∧ Calc w' 67 (w.heap.size + 1) 0 mx 2 1 ∧ Below w.heap.size w w' := by
  go_enter Try.func19, Try.ntmps19
  go_wp2_with (go_at_call 26; refine (mkS3 _).mono ?_; rintro e w' ⟨rfl, rfl⟩)
  refine (s3_upd61 _ _ mx _ ?_ (.int .i64 2000000000) ?_ ?_).mono ?_
  · simp [go_sem]
  · simp [go_sem]
  · simp [go_sem]
  rintro e w' ⟨rfl, rfl⟩
  go_wp2_with fail
  go_ret
  exact ⟨rfl, by unfold Calc; simp only [heap_at, World.size_alloc]; repeat (first | rw [if_pos trivial] | rw [if_neg (by omega)] | rw [if_pos (by omega)]), (((Below.refl _ _).alloc (Nat.le_refl _) _).alloc (by simp) _).alloc (by simp only [World.size_alloc]; omega) _⟩

set_option maxRecDepth 100000 in
set_option maxHeartbeats 4000000 in
theorem s3_new_0011 (mn mx d a : Int) (w : World) (hd : d ≤ 16) (ha : a ≤ 16) (h1 : ¬ 0 ≤ mn) (h2 : ¬ 0 ≤ mx) (h3 : 0 ≤ d) (h4 : 0 ≤ a) :
    Calls Try.prog 19 #[.agg #[.int .i64 mn, .int .i64 mx, .int .i64 d, .int .i64 a]] w fun e w' => e = .returned (.pointer (some ⟨w.heap.size + 1, 0, none⟩)) ∧ Calc w' 67 (w.heap.size + 1) 0 2000000000 d a ∧ Below w.heap.size w w' := by
  go_enter Try.func19, Try.ntmps19
  go_wp2_with (go_at_call 26; refine (mkS3 _).mono ?_; rintro e w' ⟨rfl, rfl⟩)
  refine (s3_upd62 _ _ d _ ?_ (.int .u64 2) ?_ ?_).mono ?_
  · simp [go_sem]
  · simp [go_sem]
  · simp [go_sem]
  rintro e w' ⟨rfl, rfl⟩
  go_wp2_with fail
  refine (s3_upd63 _ _ a _ ?_ (.int .u64 1) ?_ ?_).mono ?_
  · simp [go_sem]
  · simp [go_sem]
  · simp [go_sem]
  rintro e w' ⟨rfl, rfl⟩
  go_wp2_with fail
  go_ret
  exact ⟨rfl, by unfold Calc; simp only [heap_at, World.size_alloc]; repeat (first | rw [if_pos trivial] | rw [if_neg (by omega)] | rw [if_pos (by omega)]), ((((Below.refl _ _).alloc (Nat.le_refl _) _).alloc (by simp) _).alloc (by simp only [World.size_alloc]; omega) _).alloc (by simp only [World.size_alloc]; omega) _⟩

set_option maxRecDepth 100000 in
set_option maxHeartbeats 4000000 in
theorem s3_new_0010 (mn mx d a : Int) (w : World) (hd : d ≤ 16) (ha : a ≤ 16) (h1 : ¬ 0 ≤ mn) (h2 : ¬ 0 ≤ mx) (h3 : 0 ≤ d) (h4 : ¬ 0 ≤ a) :
    Calls Try.prog 19 #[.agg #[.int .i64 mn, .int .i64 mx, .int .i64 d, .int .i64 a]] w fun e w' => e = .returned (.pointer (some ⟨w.heap.size + 1, 0, none⟩)) ∧ Calc w' 67 (w.heap.size + 1) 0 2000000000 d 1 ∧ Below w.heap.size w w' := by
  go_enter Try.func19, Try.ntmps19
  go_wp2_with (go_at_call 26; refine (mkS3 _).mono ?_; rintro e w' ⟨rfl, rfl⟩)
  refine (s3_upd62 _ _ d _ ?_ (.int .u64 2) ?_ ?_).mono ?_
  · simp [go_sem]
  · simp [go_sem]
  · simp [go_sem]
  rintro e w' ⟨rfl, rfl⟩
  go_wp2_with fail
  go_ret
  exact ⟨rfl, by unfold Calc; simp only [heap_at, World.size_alloc]; repeat (first | rw [if_pos trivial] | rw [if_neg (by omega)] | rw [if_pos (by omega)]), (((Below.refl _ _).alloc (Nat.le_refl _) _).alloc (by simp) _).alloc (by simp only [World.size_alloc]; omega) _⟩

set_option maxRecDepth 100000 in
set_option maxHeartbeats 4000000 in
theorem s3_new_0001 (mn mx d a : Int) (w : World) (hd : d ≤ 16) (ha : a ≤ 16) (h1 : ¬ 0 ≤ mn) (h2 : ¬ 0 ≤ mx) (h3 : ¬ 0 ≤ d) (h4 : 0 ≤ a) :
    Calls Try.prog 19 #[.agg #[.int .i64 mn, .int .i64 mx, .int .i64 d, .int .i64 a]] w fun e w' => e = .returned (.pointer (some ⟨w.heap.size + 1, 0, none⟩)) ∧ Calc w' 67 (w.heap.size + 1) 0 2000000000 2 a ∧ Below w.heap.size w w' := by
  go_enter Try.func19, Try.ntmps19
  go_wp2_with (go_at_call 26; refine (mkS3 _).mono ?_; rintro e w' ⟨rfl, rfl⟩)
  refine (s3_upd63 _ _ a _ ?_ (.int .u64 1) ?_ ?_).mono ?_
  · simp [go_sem]
  · simp [go_sem]
  · simp [go_sem]
  rintro e w' ⟨rfl, rfl⟩
  go_wp2_with fail
  go_ret
  exact ⟨rfl, by unfold Calc; simp only [heap_at, World.size_alloc]; repeat (first | rw [if_pos trivial] | rw [if_neg (by omega)] | rw [if_pos (by omega)]), (((Below.refl _ _).alloc (Nat.le_refl _) _).alloc (by simp) _).alloc (by simp only [World.size_alloc]; omega) _⟩

set_option maxRecDepth 100000 in
set_option maxHeartbeats 4000000 in
theorem s3_new_0000 (mn mx d a : Int) (w : World) (hd : d ≤ 16) (ha : a ≤ 16) (h1 : ¬ 0 ≤ mn) (h2 : ¬ 0 ≤ mx) (h3 : ¬ 0 ≤ d) (h4 : ¬ 0 ≤ a) :
    Calls Try.prog 19 #[.agg #[.int .i64 mn, .int .i64 mx, .int .i64 d, .int .i64 a]] w fun e w' => e = .returned (.pointer (some ⟨w.heap.size + 1, 0, none⟩)) ∧ Calc w' 67 (w.heap.size + 1) 0 2000000000 2 1 ∧ Below w.heap.size w w' := by
  go_enter Try.func19, Try.ntmps19
  go_wp2_with (go_at_call 26; refine (mkS3 _).mono ?_; rintro e w' ⟨rfl, rfl⟩)
  go_ret
  exact ⟨rfl, by unfold Calc; simp only [heap_at, World.size_alloc]; repeat (first | rw [if_pos trivial] | rw [if_neg (by omega)] | rw [if_pos (by omega)]), ((Below.refl _ _).alloc (Nat.le_refl _) _).alloc (by simp) _⟩

theorem s3_new (mn mx d a : Int) (w : World) (hd : d ≤ 16) (ha : a ≤ 16) :
    Calls Try.prog 19 #[.agg #[.int .i64 mn, .int .i64 mx, .int .i64 d, .int .i64 a]] w fun e w' => e = .returned (.pointer (some ⟨w.heap.size + 1, 0, none⟩)) ∧ Calc w' 67 (w.heap.size + 1) (gv mn 0) (gv mx 2000000000) (gv d 2) (gv a 1) ∧ Below w.heap.size w w' := by
  by_cases h1 : 0 ≤ mn <;> by_cases h2 : 0 ≤ mx <;> by_cases h3 : 0 ≤ d <;> by_cases h4 : 0 ≤ a <;> simp only [gv_pos, gv_neg, h1, h2, h3, h4, not_false_eq_true]
  · exact s3_new_1111 mn mx d a w hd ha h1 h2 h3 h4
  · exact s3_new_1110 mn mx d a w hd ha h1 h2 h3 h4
  · exact s3_new_1101 mn mx d a w hd ha h1 h2 h3 h4
  · exact s3_new_1100 mn mx d a w hd ha h1 h2 h3 h4
  · exact s3_new_1011 mn mx d a w hd ha h1 h2 h3 h4
  · exact s3_new_1010 mn mx d a w hd ha h1 h2 h3 h4
  · exact s3_new_1001 mn mx d a w hd ha h1 h2 h3 h4
  · exact s3_new_1000 mn mx d a w hd ha h1 h2 h3 h4
  · exact s3_new_0111 mn mx d a w hd ha h1 h2 h3 h4
  · exact s3_new_0110 mn mx d a w hd ha h1 h2 h3 h4
  · exact s3_new_0101 mn mx d a w hd ha h1 h2 h3 h4
  · exact s3_new_0100 mn mx d a w hd ha h1 h2 h3 h4
  · exact s3_new_0011 mn mx d a w hd ha h1 h2 h3 h4
  · exact s3_new_0010 mn mx d a w hd ha h1 h2 h3 h4
  · exact s3_new_0001 mn mx d a w hd ha h1 h2 h3 h4
  · exact s3_new_0000 mn mx d a w hd ha h1 h2 h3 h4

set_option maxRecDepth 100000 in
set_option maxHeartbeats 4000000 in
theorem df_new_1111 (mn mx d a : Int) (w : World) (hd : d ≤ 16) (ha : a ≤ 16) (h1 : 0 ≤ mn) (h2 : 0 ≤ mx) (h3 : 0 ≤ d) (h4 : 0 ≤ a) :
    Calls Try.prog 29 #[.agg #[.int .i64 mn, .int .i64 mx, .int .i64 d, .int .i64 a]] w fun e w' => e = .returned (.pointer (some ⟨w.heap.size + 1, 0, none⟩)) ∧ Calc w' 90 (w.heap.size + 1) mn mx d a ∧ Below w.heap.size w w' := by
  go_enter Try.func29, Try.ntmps29
  go_wp2_with (go_at_call 34; refine (mkDf _).mono ?_; rintro e w' ⟨rfl, rfl⟩)
  refine (df_upd60 _ _ mn _ ?_ (.int .i64 10000000) ?_ ?_).mono ?_
  · simp [go_sem]
  · simp [go_sem]
  · simp [go_sem]
  rintro e w' ⟨rfl, rfl⟩
  go_wp2_with fail
  refine (df_upd61 _ _ mx _ ?_ (.int .i64 2000000000) ?_ ?_).mono ?_
  · simp [go_sem]
  · simp [go_sem]
  · simp [go_sem]
  rintro e w' ⟨rfl, rfl⟩
  go_wp2_with fail
  refine (df_upd62 _ _ d _ ?_ (.int .u64 2) ?_ ?_).mono ?_
  · simp [go_sem]
  · simp [go_sem]
  · simp [go_sem]
  rintro e w' ⟨rfl, rfl⟩
  go_wp2_with fail
  refine (df_upd63 _ _ a _ ?_ (.int .u64 1) ?_ ?_).mono ?_
  · simp [go_sem]
  · simp [go_sem]
  · simp [go_sem]
  rintro e w' ⟨rfl, rfl⟩
  go_wp2_with fail
  go_ret
  exact ⟨rfl, by unfold Calc; simp only [heap_at, World.size_alloc]; repeat (first | rw [if_pos trivial] | rw [if_neg (by omega)] | rw [if_pos (by omega)]), ((((((Below.refl _ _).alloc (Nat.le_refl _) _).alloc (by simp) _).alloc (by simp only [World.size_alloc]; omega) _).alloc (by simp only [World.size_alloc]; omega) _).alloc (by simp only [World.size_alloc]; omega) _).alloc (by simp only [World.size_alloc]; omega) _⟩

set_option maxRecDepth 100000 in
set_option maxHeartbeats 4000000 in
theorem df_new_1110 (mn mx d a : Int) (w : World) (hd : d ≤ 16) (ha : a ≤ 16) (h1 : 0 ≤ mn) (h2 : 0 ≤ mx) (h3 : 0 ≤ d) (h4 : ¬ 0 ≤ a) :
    Calls Try.prog 29 #[.agg #[.int .i64 mn, .int .i64 mx, .int .i64 d, .int .i64 a]] w fun e w' => e = .returned (.pointer (some ⟨w.heap.size + 1, 0, none⟩)) ∧ Calc w' 90 (w.heap.size + 1) mn mx d 1 ∧ Below w.heap.size w w' := by
  go_enter Try.func29, Try.ntmps29
  go_wp2_with (go_at_call 34; refine (mkDf _).mono ?_; rintro e w' ⟨rfl, rfl⟩)
  refine (df_upd60 _ _ mn _ ?_ (.int .i64 10000000) ?_ ?_).mono ?_
  · simp [go_sem]
  · simp [go_sem]
  · simp [go_sem]
  rintro e w' ⟨rfl, rfl⟩
  go_wp2_with fail
  refine (df_upd61 _ _ mx _ ?_ (.int .i64 2000000000) ?_ ?_).mono ?_
  · simp [go_sem]
  · simp [go_sem]
  · simp [go_sem]
  rintro e w' ⟨rfl, rfl⟩
  go_wp2_with fail
  refine (df_upd62 _ _ d _ ?_ (.int .u64 2) ?_ ?_).mono ?_
  · simp [go_sem]
  · simp [go_sem]
  · simp [go_sem]
  rintro e w' ⟨rfl, rfl⟩
  go_wp2_with fail
  go_ret
  exact ⟨rfl, by unfold Calc; simp only [heap_at, World.size_alloc]; repeat (first | rw [if_pos trivial] | rw [if_neg (by omega)] | rw [if_pos (by omega)]), (((((Below.refl _ _).alloc (Nat.le_refl _) _).alloc (by simp) _).alloc (by simp only [World.size_alloc]; omega) _).alloc (by simp only [World.size_alloc]; omega) _).alloc (by simp only [World.size_alloc]; omega) _⟩

set_option maxRecDepth 100000 in
set_option maxHeartbeats 4000000 in
theorem df_new_1101 (mn mx d a : Int) (w : World) (hd : d ≤ 16) (ha : a ≤ 16) (h1 : 0 ≤ mn) (h2 : 0 ≤ mx) (h3 : ¬ 0 ≤ d) (h4 : 0 ≤ a) :
    Calls Try.prog 29 #[.agg #[.int .i64 mn, .int .i64 mx, .int .i64 d, .int .i64 a]] w fun e w' => e = .returned (.pointer (some ⟨w.heap.size + 1, 0, none⟩)) ∧ Calc w' 90 (w.heap.size + 1) mn mx 2 a ∧ Below w.heap.size w w' := by
  go_enter Try.func29, Try.ntmps29
  go_wp2_with (go_at_call 34; refine (mkDf _).mono ?_; rintro e w' ⟨rfl, rfl⟩)
  refine (df_upd60 _ _ mn _ ?_ (.int .i64 10000000) ?_ ?_).mono ?_
  · simp [go_sem]
  · simp [go_sem]
  · simp [go_sem]
  rintro e w' ⟨rfl, rfl⟩
  go_wp2_with fail
  refine (df_upd61 _ _ mx _ ?_ (.int .i64 2000000000) ?_ ?_).mono ?_
  · simp [go_sem]
  · simp [go_sem]
  · simp [go_sem]
  rintro e w' ⟨rfl, rfl⟩
  go_wp2_with fail
  refine (df_upd63 _ _ a _ ?_ (.int .u64 1) ?_ ?_).mono ?_
  · simp [go_sem]
  · simp [go_sem]
  · simp [go_sem]
  rintro e w' ⟨rfl, rfl⟩
  go_wp2_with fail
  go_ret
  exact ⟨rfl, by unfold Calc; simp only [heap_at, World.size_alloc]; repeat (first | rw [if_pos trivial] | rw [if_neg (by omega)] | rw [if_pos (by omega)]), (((((Below.refl _ _).alloc (Nat.le_refl _) _).alloc (by simp) _).alloc (by simp only [World.size_alloc]; omega) _).alloc (by simp only [World.size_alloc]; omega) _).alloc (by simp only [World.size_alloc]; omega) _⟩

set_option maxRecDepth 100000 in
set_option maxHeartbeats 4000000 in
theorem df_new_1100 (mn mx d a : Int) (w : World) (hd : d ≤ 16) (ha : a ≤ 16) (h1 : 0 ≤ mn) (h2 : 0 ≤ mx) (h3 : ¬ 0 ≤ d) (h4 : ¬ 0 ≤ a) :
    Calls Try.prog 29 #[.agg #[.int .i64 mn, .int .i64 mx, .int .i64 d, .int .i64 a]] w fun e w' => e = .returned (.pointer (some ⟨w.heap.size + 1, 0, none⟩)) ∧ Calc w' 90 (w.heap.size + 1) mn mx 2 1 ∧ Below w.heap.size w w' := by
  go_enter Try.func29, Try.ntmps29
  go_wp2_with (go_at_call 34; refine (mkDf _).mono ?_; rintro e w' ⟨rfl, rfl⟩)
  refine (df_upd60 _ _ mn _ ?_ (.int .i64 10000000) ?_ ?_).mono ?_
  · simp [go_sem]
  · simp [go_sem]
  · simp [go_sem]
  rintro e w' ⟨rfl, rfl⟩
  go_wp2_with fail
  refine (df_upd61 _ _ mx _ ?_ (.int .i64 2000000000) ?_ ?_).mono ?_
  · simp [go_sem]
  · simp [go_sem]
  · simp [go_sem]
  rintro e w' ⟨rfl, rfl⟩
  go_wp2_with fail
  go_ret
  exact ⟨rfl, by unfold Calc; simp only [heap_at, World.size_alloc]; repeat (first | rw [if_pos trivial] | rw [if_neg (by omega)] | rw [if_pos (by omega)]), ((((Below.refl _ _).alloc (Nat.le_refl _) _).alloc (by simp) _).alloc (by simp only [World.size_alloc]; omega) _).alloc (by simp only [World.size_alloc]; omega) _⟩

set_option maxRecDepth 100000 in
set_option maxHeartbeats 4000000 in
theorem df_new_1011 (mn mx d a : Int) (w : World) (hd : d ≤ 16) (ha : a ≤ 16) (h1 : 0 ≤ mn) (h2 : ¬ 0 ≤ mx) (h3 : 0 ≤ d) (h4 : 0 ≤ a) :
    Calls Try.prog 29 #[.agg #[.int .i64 mn, .int .i64 mx, .int .i64 d, .int .i64 a]] w fun e w' => e = .returned (.pointer (some ⟨w.heap.size + 1, 0, none⟩)) ∧ Calc w' 90 (w.heap.size + 1) mn 2000000000 d a ∧ Below w.heap.size w w' := by
  go_enter Try.func29, Try.ntmps29
  go_wp2_with (go_at_call 34; refine (mkDf _).mono ?_; rintro e w' ⟨rfl, rfl⟩)
  refine (df_upd60 _ _ mn _ ?_ (.int .i64 10000000) ?_ ?_).mono ?_
  · simp [go_sem]
  · simp [go_sem]
  · simp [go_sem]
  rintro e w' ⟨rfl, rfl⟩
  go_wp2_with fail
  refine (df_upd62 _ _ d _ ?_ (.int .u64 2) ?_ ?_).mono ?_
  · simp [go_sem]
  · simp [go_sem]
  · simp [go_sem]
  rintro e w' ⟨rfl, rfl⟩
  go_wp2_with fail
  refine (df_upd63 _ _ a _ ?_ (.int .u64 1) ?_ ?_).mono ?_
  · simp [go_sem]
  · simp [go_sem]
  · simp [go_sem]
  rintro e w' ⟨rfl, rfl⟩
  go_wp2_with fail
  go_ret
  exact ⟨rfl, by unfold Calc; simp only [heap_at, World.size_alloc]; repeat (first | rw [if_pos trivial] | rw [if_neg (by omega)] | rw [if_pos (by omega)]), (((((Below.refl _ _).alloc (Nat.le_refl _) _).alloc (by simp) _).alloc (by simp only [World.size_alloc]; omega) _).alloc (by simp only [World.size_alloc]; omega) _).alloc (by simp only [World.size_alloc]; omega) _⟩

set_option maxRecDepth 100000 in
set_option maxHeartbeats 4000000 in
theorem df_new_1010 (mn mx d a : Int) (w : World) (hd : d ≤ 16) (ha : a ≤ 16) (h1 : 0 ≤ mn) (h2 : ¬ 0 ≤ mx) (h3 : 0 ≤ d) (h4 : ¬ 0 ≤ a) :
    Calls Try.prog 29 #[.agg #[.int .i64 mn, .int .i64 mx, .int .i64 d, .int .i64 a]] w fun e w' => e = .returned (.pointer (some ⟨w.heap.size + 1, 0, none⟩)) ∧ Calc w' 90 (w.heap.size + 1) mn 2000000000 d 1 ∧ Below w.heap.size w w' := by
  go_enter Try.func29, Try.ntmps29
  go_wp2_with (go_at_call 34; refine (mkDf _).mono ?_; rintro e w' ⟨rfl, rfl⟩)
  refine (df_upd60 _ _ mn _ ?_ (.int .i64 10000000) ?_ ?_).mono ?_
  · simp [go_sem]
  · simp [go_sem]
  · simp [go_sem]
  rintro e w' ⟨rfl, rfl⟩
  go_wp2_with fail
  refine (df_upd62 _ _ d _ ?_ (.int .u64 2) ?_ ?_).mono ?_
  · simp [go_sem]
  · simp [go_sem]
  · simp [go_sem]
  rintro e w' ⟨rfl, rfl⟩
  go_wp2_with fail
  go_ret
  exact ⟨rfl, by unfold Calc; simp only [heap_at, World.size_alloc]; repeat (first | rw [if_pos trivial] | rw [if_neg (by omega)] | rw [if_pos (by omega)]), ((((Below.refl _ _).alloc (Nat.le_refl _) _).alloc (by simp) _).alloc (by simp only [World.size_alloc]; omega) _).alloc (by simp only [World.size_alloc]; omega) _⟩

set_option maxRecDepth 100000 in
set_option maxHeartbeats 4000000 in
theorem df_new_1001 (mn mx d a : Int) (w : World) (hd : d ≤ 16) (ha : a ≤ 16) (h1 : 0 ≤ mn) (h2 : ¬ 0 ≤ mx) (h3 : ¬ 0 ≤ d) (h4 : 0 ≤ a) :
    Calls Try.prog 29 #[.agg #[.int .i64 mn, .int .i64 mx, .int .i64 d, .int .i64 a]] w fun e w' => e = .returned (.pointer (some ⟨w.heap.size + 1, 0, none⟩)) ∧ Calc w' 90 (w.heap.size + 1) mn 2000000000 2 a ∧ Below w.heap.size w w' := by
  go_enter Try.func29, Try.ntmps29
  go_wp2_with (go_at_call 34; refine (mkDf _).mono ?_; rintro e w' ⟨rfl, rfl⟩)
  refine (df_upd60 _ _ mn _ ?_ (.int .i64 10000000) ?_ ?_).mono ?_
  · simp [go_sem]
  · simp [go_sem]
  · simp [go_sem]
  rintro e w' ⟨rfl, rfl⟩
  go_wp2_with fail
  refine (df_upd63 _ _ a _ ?_ (.int .u64 1) ?_ ?_).mono ?_
  · simp [go_sem]
  · simp [go_sem]
  · simp [go_sem]
  rintro e w' ⟨rfl, rfl⟩
  go_wp2_with fail
  go_ret
  exact ⟨rfl, by unfold Calc; simp only [heap_at, World.size_alloc]; repeat (first | rw [if_pos trivial] | rw [if_neg (by omega)] | rw [if_pos (by omega)]), ((((Below.refl _ _).alloc (Nat.le_refl _) _).alloc (by simp) _).alloc (by simp only [World.size_alloc]; omega) _).alloc (by simp only [World.size_alloc]; omega) _⟩

set_option maxRecDepth 100000 in
set_option maxHeartbeats 4000000 in
theorem df_new_1000 (mn mx d a : Int) (w : World) (hd : d ≤ 16) (ha : a ≤ 16) (h1 : 0 ≤ mn) (h2 : ¬ 0 ≤ mx) (h3 : ¬ 0 ≤ d) (h4 : ¬ 0 ≤ a) :
    Calls Try.prog 29 #[.agg #[.int .i64 mn, .int .i64 mx, .int .i64 d, .int .i64 a]] w fun e w' => e = .returned (.pointer (some ⟨w.heap.size + 1, 0, none⟩)) ∧ Calc w' 90 (w.heap.size + 1) mn 2000000000 2 1 ∧ Below w.heap.size w w' := by
  go_enter Try.func29, Try.ntmps29
  go_wp2_with (go_at_call 34; refine (mkDf _).mono ?_; rintro e w' ⟨rfl, rfl⟩)
  refine (df_upd60 _ _ mn _ ?_ (.int .i64 10000000) ?_ ?_).mono ?_
  · simp [go_sem]
  · simp [go_sem]
  · simp [go_sem]
  rintro e w' ⟨rfl, rfl⟩
  go_wp2_with fail
  go_ret
  exact ⟨rfl, by unfold Calc; simp only [heap_at, World.size_alloc]; repeat (first | rw [if_pos trivial] | rw [if_neg (by omega)] | rw [if_pos (by omega)]), (((Below.refl _ _).alloc (Nat.le_refl _) _).alloc (by simp) _).alloc (by simp only [World.size_alloc]; omega) _⟩

set_option maxRecDepth 100000 in
set_option maxHeartbeats 4000000 in
theorem df_new_0111 (mn mx d a : Int) (w : World) (hd : d ≤ 16) (ha : a ≤ 16) (h1 : ¬ 0 ≤ mn) (h2 : 0 ≤ mx) (h3 : 0 ≤ d) (h4 : 0 ≤ a) :
    Calls Try.prog 29 #[.agg #[.int .i64 mn, .int .i64 mx, .int .i64 d, .int .i64 a]] w fun e w' => e = .returned (.pointer (some ⟨w.heap.size + 1, 0, none⟩)) ∧ Calc w' 90 (w.heap.size + 1) 10000000 mx d a ∧ Below w.heap.size w w' := by
  go_enter Try.func29, Try.ntmps29
  go_wp2_with (go_at_call 34; refine (mkDf _).mono ?_; rintro e w' ⟨rfl, rfl⟩)
  refine (df_upd61 _ _ mx _ ?_ (.int .i64 2000000000) ?_ ?_).mono ?_
  · simp [go_sem]
  · simp [go_sem]
  · simp [go_sem]
  rintro e w' ⟨rfl, rfl⟩
  go_wp2_with fail
  refine (df_upd62 _ _ d _ ?_ (.int .u64 2) ?_ ?_).mono ?_
  · simp [go_sem]
  · simp [go_sem]
  · simp [go_sem]
  rintro e w' ⟨rfl, rfl⟩
  go_wp2_with fail
  refine (df_upd63 _ _ a _ ?_ (.int .u64 1) ?_ ?_).mono ?_
  · simp [go_sem]
  · simp [go_sem]
  · simp [go_sem]
  rintro e w' ⟨rfl, rfl⟩
  go_wp2_with fail
  go_ret
  exact ⟨rfl, by unfold Calc; simp only [heap_at, World.size_alloc]; repeat (first | rw [if_pos trivial] | rw [if_neg (by omega)] | rw [if_pos (by omega)]), (((((Below.refl _ _).alloc (Nat.le_refl _) _).alloc (by simp) _).alloc (by simp only [World.size_alloc]; omega) _).alloc (by simp only [World.size_alloc]; omega) _).alloc (by simp only [World.size_alloc]; omega) _⟩

set_option maxRecDepth 100000 in
set_option maxHeartbeats 4000000 in
theorem df_new_0110 (mn mx d a : Int) (w : World) (hd : d ≤ 16) (ha : a ≤ 16) (h1 : ¬ 0 ≤ mn) (h2 : 0 ≤ mx) (h3 : 0 ≤ d) (h4 : ¬ 0 ≤ a) :
    Calls Try.prog 29 #[.agg #[.int .i64 mn, .int .i64 mx, .int .i64 d, .int .i64 a]] w fun e w' => e = .returned (.pointer (some ⟨w.heap.size + 1, 0, none⟩)) ∧ Calc w' 90 (w.heap.size + 1) 10000000 mx d 1 ∧ Below w.heap.size w w' := by
  go_enter Try.func29, Try.ntmps29
  go_wp2_with (go_at_call 34; refine (mkDf _).mono ?_; rintro e w' ⟨rfl, rfl⟩)
  refine (df_upd61 _ _ mx _ ?_ (.int .i64 2000000000) ?_ ?_).mono ?_
  · simp [go_sem]
  · simp [go_sem]
  · simp [go_sem]
  rintro e w' ⟨rfl, rfl⟩
  go_wp2_with fail
  refine (df_upd62 _ _ d _ ?_ (.int .u64 2) ?_ ?_).mono ?_
  · simp [go_sem]
  · simp [go_sem]
  · simp [go_sem]
  rintro e w' ⟨rfl, rfl⟩
  go_wp2_with fail
  go_ret
  exact ⟨rfl, by unfold Calc; simp only [heap_at, World.size_alloc]; repeat (first | rw [if_pos trivial] | rw [if_neg (by omega)] | rw [if_pos (by omega)]), ((((Below.refl _ _).alloc (Nat.le_refl _) _).alloc (by simp) _).alloc (by simp only [World.size_alloc]; omega) _).alloc (by simp only [World.size_alloc]; omega) _⟩

set_option maxRecDepth 100000 in
set_option maxHeartbeats 4000000 in
theorem df_new_0101 (mn mx d a : Int) (w : World) (hd : d ≤ 16) (ha : a ≤ 16) (h1 : ¬ 0 ≤ mn) (h2 : 0 ≤ mx) (h3 : ¬ 0 ≤ d) (h4 : 0 ≤ a) :
    Calls Try.prog 29 #[.agg #[.int .i64 mn, .int .i64 mx, .int .i64 d, .int .i64 a]] w fun e w' => e = .returned (.pointer (some ⟨w.heap.size + 1, 0, none⟩)) ∧ Calc w' 90 (w.heap.size + 1) 10000000 mx 2 a ∧ Below w.heap.size w w' := by
  go_enter Try.func29, Try.ntmps29
  go_wp2_with (go_at_call 34; refine (mkDf _).mono ?_; rintro e w' ⟨rfl, rfl⟩)
  refine (df_upd61 _ _ mx _ ?_ (.int .i64 2000000000) ?_ ?_).mono ?_
  · simp [go_sem]
  · simp [go_sem]
  · simp [go_sem]
  rintro e w' ⟨rfl, rfl⟩
  go_wp2_with fail
  refine (df_upd63 _ _ a _ ?_ (.int .u64 1) ?_ ?_).mono ?_
  · simp [go_sem]
  · simp [go_sem]
  · simp [go_sem]
  rintro e w' ⟨rfl, rfl⟩
  go_wp2_with fail
  go_ret
  exact ⟨rfl, by unfold Calc; simp only [heap_at, World.size_alloc]; repeat (first | rw [if_pos trivial] | rw [if_neg (by omega)] | rw [if_pos (by omega)]), ((((Below.refl _ _).alloc (Nat.le_refl _) _).alloc (by simp) _).alloc (by simp only [World.size_alloc]; omega) _).alloc (by simp only [World.size_alloc]; omega) _⟩

set_option maxRecDepth 100000 in
set_option maxHeartbeats 4000000 in
theorem df_new_0100 (mn mx d a : Int) (w : World) (hd : d ≤ 16) (ha : a ≤ 16) (h1 : ¬ 0 ≤ mn) (h2 : 0 ≤ mx) (h3 : ¬ 0 ≤ d) (h4 : ¬ 0 ≤ a) :
    Calls Try.prog 29 #[.agg #[.int .i64 mn, .int .i64 mx, .int .i64 d, .int .i64 a]] w fun e w' => e = .returned (.pointer (some ⟨w.heap.size + 1, 0, none⟩)) ∧ Calc w' 90 (w.heap.size + 1) 10000000 mx 2 1 ∧ Below w.heap.size w w' := by
  go_enter Try.func29, Try.ntmps29
  go_wp2_with (go_at_call 34; refine (mkDf _).mono ?_; rintro e w' ⟨rfl, rfl⟩)
  refine (df_upd61 _ _ mx _ ?_ (.int .i64 2000000000) ?_ ?_).mono ?_
  · simp [go_sem]
  · simp [go_sem]
  · simp [go_sem]
  rintro e w' ⟨rfl, rfl⟩
  go_wp2_with fail
  go_ret
  exact ⟨rfl, by unfold Calc; simp only [heap_at, World.size_alloc]; repeat (first | rw [if_pos trivial] | rw [if_neg (by omega)] | rw [if_pos (by omega)]), (((Below.refl _ _).alloc (Nat.le_refl _) _).alloc (by simp) _).alloc (by simp only [World.size_alloc]; omega) _⟩

set_option maxRecDepth 100000 in
set_option maxHeartbeats 4000000 in
theorem df_new_0011 (mn mx d a : Int) (w : World) (hd : d ≤ 16) (ha : a ≤ 16) (h1 : ¬ 0 ≤ mn) (h2 : ¬ 0 ≤ mx) (h3 : 0 ≤ d) (h4 : 0 ≤ a) :
    Calls Try.prog 29 #[.agg #[.int .i64 mn, .int .i64 mx, .int .i64 d, .int .i64 a]] w fun e w' => e = .returned (.pointer (some ⟨w.heap.size + 1, 0, none⟩)) ∧ Calc w' 90 (w.heap.size + 1) 10000000 2000000000 d a ∧ Below w.heap.size w w' := by
  go_enter Try.func29, Try.ntmps29
  go_wp2_with (go_at_call 34; refine (mkDf _).mono ?_; rintro e w' ⟨rfl, rfl⟩)
  refine (df_upd62 _ _ d _ ?_ (.int .u64 2) ?_ ?_).mono ?_
  · simp [go_sem]
  · simp [go_sem]
  · simp [go_sem]
  rintro e w' ⟨rfl, rfl⟩
  go_wp2_with fail
  refine (df_upd63 _ _ a _ ?_ (.int .u64 1) ?_ ?_).mono ?_
  · simp [go_sem]
  · simp [go_sem]
  · simp [go_sem]
  rintro e w' ⟨rfl, rfl⟩
  go_wp2_with fail
  go_ret
  exact ⟨rfl, by unfold Calc; simp only [heap_at, World.size_alloc]; repeat (first | rw [if_pos trivial] | rw [if_neg (by omega)] | rw [if_pos (by omega)]), ((((Below.refl _ _).alloc (Nat.le_refl _) _).alloc (by simp) _).alloc (by simp only [World.size_alloc]; omega) _).alloc (by simp only [World.size_alloc]; omega) _⟩

set_option maxRecDepth 100000 in
set_option maxHeartbeats 4000000 in
theorem df_new_0010 (mn mx d a : Int) (w : World) (hd : d ≤ 16) (ha : a ≤ 16) (h1 : ¬ 0 ≤ mn) (h2 : ¬ 0 ≤ mx) (h3 : 0 ≤ d) (h4 : ¬ 0 ≤ a) :
    Calls Try.prog 29 #[.agg #[.int .i64 mn, .int .i64 mx, .int .i64 d, .int .i64 a]] w fun e w' => e = .returned (.pointer (some ⟨w.heap.size + 1, 0, none⟩)) ∧ Calc w' 90 (w.heap.size + 1) 10000000 2000000000 d 1 ∧ Below w.heap.size w w' := by
  go_enter Try.func29, Try.ntmps29
  go_wp2_with (go_at_call 34; refine (mkDf _).mono ?_; rintro e w' ⟨rfl, rfl⟩)
  refine (df_upd62 _ _ d _ ?_ (.int .u64 2) ?_ ?_).mono ?_
  · simp [go_sem]
  · simp [go_sem]
  · simp [go_sem]
  rintro e w' ⟨rfl, rfl⟩
  go_wp2_with fail
  go_ret
  exact ⟨rfl, by unfold Calc; simp only [heap_at, World.size_alloc]; repeat (first | rw [if_pos trivial] | rw [if_neg (by omega)] | rw [if_pos (by omega)]), (((Below.refl _ _).alloc (Nat.le_refl _) _).alloc (by simp) _).alloc (by simp only [World.size_alloc]; omega) _⟩

set_option maxRecDepth 100000 in
set_option maxHeartbeats 4000000 in
theorem df_new_0001 (mn mx d a : Int) (w : World) (hd : d ≤ 16) (ha : a ≤ 16) (h1 : ¬ 0 ≤ mn) (h2 : ¬ 0 ≤ mx) (h3 : ¬ 0 ≤ d) (h4 : 0 ≤ a) :
    Calls Try.prog 29 #[.agg #[.int .i64 mn, .int .i64 mx, .int .i64 d, .int .i64 a]] w fun e w' => e = .returned (.pointer (some ⟨w.heap.size + 1, 0, none⟩)) ∧ Calc w' 90 (w.heap.size + 1) 10000000 2000000000 2 a ∧ Below w.heap.size w w' := by
  go_enter Try.func29, Try.ntmps29
  go_wp2_with (go_at_call 34; refine (mkDf _).mono ?_; rintro e w' ⟨rfl, rfl⟩)
  refine (df_upd63 _ _ a _ ?_ (.int .u64 1) ?_ ?_).mono ?_
  · simp [go_sem]
  · simp [go_sem]
  · simp [go_sem]
  rintro e w' ⟨rfl, rfl⟩
  go_wp2_with fail
  go_ret
  exact ⟨rfl, by unfold Calc; simp only [heap_at, World.size_alloc]; repeat (first | rw [if_pos trivial] | rw [if_neg (by omega)] | rw [if_pos (by omega)]), (((Below.refl _ _).alloc (Nat.le_refl _) _).alloc (by simp) _).alloc (by simp only [World.size_alloc]; omega) _⟩

set_option maxRecDepth 100000 in
set_option maxHeartbeats 4000000 in
theorem df_new_0000 (mn mx d a : Int) (w : World) (hd : d ≤ 16) (ha : a ≤ 16) (h1 : ¬ 0 ≤ mn) (h2 : ¬ 0 ≤ mx) (h3 : ¬ 0 ≤ d) (h4 : ¬ 0 ≤ a) :
    Calls Try.prog 29 #[.agg #[.int .i64 mn, .int .i64 mx, .int .i64 d, .int .i64 a]] w fun e w' => e = .returned (.pointer (some ⟨w.heap.size + 1, 0, none⟩)) ∧ Calc w' 90 (w.heap.size + 1) 10000000 2000000000 2 1 ∧ Below w.heap.size w w' := by
  go_enter Try.func29, Try.ntmps29
  go_wp2_with (go_at_call 34; refine (mkDf _).mono ?_; rintro e w' ⟨rfl, rfl⟩)
  go_ret
  exact ⟨rfl, by unfold Calc; simp only [heap_at, World.size_alloc]; repeat (first | rw [if_pos trivial] | rw [if_neg (by omega)] | rw [if_pos (by omega)]), ((Below.refl _ _).alloc (Nat.le_refl _) _).alloc (by simp) _⟩

theorem df_new (mn mx d a : Int) (w : World) (hd : d ≤ 16) (ha : a ≤ 16) :
    Calls Try.prog 29 #[.agg #[.int .i64 mn, .int .i64 mx, .int .i64 d, .int .i64 a]] w fun e w' => e = .returned (.pointer (some ⟨w.heap.size + 1, 0, none⟩)) ∧ Calc w' 90 (w.heap.size + 1) (gv mn 10000000) (gv mx 2000000000) (gv d 2) (gv a 1) ∧ Below w.heap.size w w' := by
  by_cases h1 : 0 ≤ mn <;> by_cases h2 : 0 ≤ mx <;> by_cases h3 : 0 ≤ d <;> by_cases h4 : 0 ≤ a <;> simp only [gv_pos, gv_neg, h1, h2, h3, h4, not_false_eq_true]
  · exact df_new_1111 mn mx d a w hd ha h1 h2 h3 h4
  · exact df_new_1110 mn mx d a w hd ha h1 h2 h3 h4
  · exact df_new_1101 mn mx d a w hd ha h1 h2 h3 h4
  · exact df_new_1100 mn mx d a w hd ha h1 h2 h3 h4
  · exact df_new_1011 mn mx d a w hd ha h1 h2 h3 h4
  · exact df_new_1010 mn mx d a w hd ha h1 h2 h3 h4
  · exact df_new_1001 mn mx d a w hd ha h1 h2 h3 h4
  · exact df_new_1000 mn mx d a w hd ha h1 h2 h3 h4
  · exact df_new_0111 mn mx d a w hd ha h1 h2 h3 h4
  · exact df_new_0110 mn mx d a w hd ha h1 h2 h3 h4
  · exact df_new_0101 mn mx d a w hd ha h1 h2 h3 h4
  · exact df_new_0100 mn mx d a w hd ha h1 h2 h3 h4
  · exact df_new_0011 mn mx d a w hd ha h1 h2 h3 h4
  · exact df_new_0010 mn mx d a w hd ha h1 h2 h3 h4
  · exact df_new_0001 mn mx d a w hd ha h1 h2 h3 h4
  · exact df_new_0000 mn mx d a w hd ha h1 h2 h3 h4

end Go.Proofs.Ytgdjplpbpknfmaa.Given
