/- The contracts of a calculator's options (Update, ApplyS3, ApplyDefault) and of newS3 and newDefault. -/
import Derived.Test.YtgdjplpbpknfmaaCalc
namespace Go.Proofs.Ytgdjplpbpknfmaa.Given
open Go.RowKit
set_option linter.unusedVariables false
set_option linter.unusedSimpArgs false

set_option maxHeartbeats 1000000 in
theorem s3_upd0 (p : Value) (w : World) :
    Calls Try.prog 27 #[p, .slice none 0 0] w fun e w' => e = .returned (.tuple #[]) ∧ w = w' := by
  go_enter Try.func27, Try.ntmps27
  go_wp2
  refine wp_loop_rounds 1 ?_
  rw [rounds_succ]
  go_wp2
  go_end0
  exact ⟨rfl, rfl⟩

theorem s3_m60 (x : Int) (w : World) : (method 225 60 (.int .i64 x) "ApplyS3").run Try.prog w = .ok (55, .int .i64 x) w := by kernel_rfl
set_option maxHeartbeats 1000000 in
theorem s3_ap60 (g : Nat) (x : Int) (w : World) (y : Value) (hg : w.cell? ⟨g, 0, none⟩ = some y) (hf : w.frozen? ⟨g, 0, none⟩ = false) :
    Calls Try.prog 55 #[.int .i64 x, .pointer (some ⟨g, 0, none⟩)] w fun e w' => e = .returned (.tuple #[]) ∧ w' = w.setCell ⟨g, 0, none⟩ (.int .i64 x) := by
  go_enter Try.func55, Try.ntmps55
  go_wp2
  go_end0
  exact ⟨rfl, rfl⟩
set_option maxRecDepth 100000 in
set_option maxHeartbeats 1000000 in
theorem s3_upd60 (g b : Nat) (x : Int) (w : World) (hb : w.cell? ⟨b, 0, none⟩ = some (.iface 60 (.int .i64 x))) (y : Value) (hg : w.cell? ⟨g, 0, none⟩ = some y) (hf : w.frozen? ⟨g, 0, none⟩ = false) :
    Calls Try.prog 27 #[.pointer (some ⟨g, 0, none⟩), .slice (some ⟨b, 0, none⟩) 1 1] w fun e w' => e = .returned (.tuple #[]) ∧ w' = w.setCell ⟨g, 0, none⟩ (.int .i64 x) := by
  have hm := s3_m60
  have HG := Lib.hid hg
  have HF := Lib.hid hf
  clear hg hf
  go_enter Try.func27, Try.ntmps27
  go_wp2
  refine wp_loop_rounds 2 ?_
  rw [rounds_succ]
  go_wp2_with (go_at_call 55; refine (s3_ap60 g x _ y HG.out HF.out).mono ?_; rintro e w' ⟨rfl, rfl⟩)
  rw [rounds_succ]
  go_wp2
  go_end0
  exact ⟨rfl, rfl⟩

theorem s3_m61 (x : Int) (w : World) : (method 225 61 (.int .i64 x) "ApplyS3").run Try.prog w = .ok (57, .int .i64 x) w := by kernel_rfl
set_option maxHeartbeats 1000000 in
theorem s3_ap61 (g : Nat) (x : Int) (w : World) (y : Value) (hg : w.cell? ⟨g, 1, none⟩ = some y) (hf : w.frozen? ⟨g, 1, none⟩ = false) :
    Calls Try.prog 57 #[.int .i64 x, .pointer (some ⟨g, 0, none⟩)] w fun e w' => e = .returned (.tuple #[]) ∧ w' = w.setCell ⟨g, 1, none⟩ (.int .i64 x) := by
  go_enter Try.func57, Try.ntmps57
  go_wp2
  go_end0
  exact ⟨rfl, rfl⟩
set_option maxRecDepth 100000 in
set_option maxHeartbeats 1000000 in
theorem s3_upd61 (g b : Nat) (x : Int) (w : World) (hb : w.cell? ⟨b, 0, none⟩ = some (.iface 61 (.int .i64 x))) (y : Value) (hg : w.cell? ⟨g, 1, none⟩ = some y) (hf : w.frozen? ⟨g, 1, none⟩ = false) :
    Calls Try.prog 27 #[.pointer (some ⟨g, 0, none⟩), .slice (some ⟨b, 0, none⟩) 1 1] w fun e w' => e = .returned (.tuple #[]) ∧ w' = w.setCell ⟨g, 1, none⟩ (.int .i64 x) := by
  have hm := s3_m61
  have HG := Lib.hid hg
  have HF := Lib.hid hf
  clear hg hf
  go_enter Try.func27, Try.ntmps27
  go_wp2
  refine wp_loop_rounds 2 ?_
  rw [rounds_succ]
  go_wp2_with (go_at_call 57; refine (s3_ap61 g x _ y HG.out HF.out).mono ?_; rintro e w' ⟨rfl, rfl⟩)
  rw [rounds_succ]
  go_wp2
  go_end0
  exact ⟨rfl, rfl⟩

theorem s3_m62 (x : Int) (w : World) : (method 225 62 (.int .u64 x) "ApplyS3").run Try.prog w = .ok (59, .int .u64 x) w := by kernel_rfl
set_option maxHeartbeats 1000000 in
theorem s3_ap62 (g : Nat) (x : Int) (w : World) (y : Value) (hg : w.cell? ⟨g, 2, none⟩ = some y) (hf : w.frozen? ⟨g, 2, none⟩ = false) :
    Calls Try.prog 59 #[.int .u64 x, .pointer (some ⟨g, 0, none⟩)] w fun e w' => e = .returned (.tuple #[]) ∧ w' = w.setCell ⟨g, 2, none⟩ (.int .u64 x) := by
  go_enter Try.func59, Try.ntmps59
  go_wp2
  go_end0
  exact ⟨rfl, rfl⟩
set_option maxRecDepth 100000 in
set_option maxHeartbeats 1000000 in
theorem s3_upd62 (g b : Nat) (x : Int) (w : World) (hb : w.cell? ⟨b, 0, none⟩ = some (.iface 62 (.int .u64 x))) (y : Value) (hg : w.cell? ⟨g, 2, none⟩ = some y) (hf : w.frozen? ⟨g, 2, none⟩ = false) :
    Calls Try.prog 27 #[.pointer (some ⟨g, 0, none⟩), .slice (some ⟨b, 0, none⟩) 1 1] w fun e w' => e = .returned (.tuple #[]) ∧ w' = w.setCell ⟨g, 2, none⟩ (.int .u64 x) := by
  have hm := s3_m62
  have HG := Lib.hid hg
  have HF := Lib.hid hf
  clear hg hf
  go_enter Try.func27, Try.ntmps27
  go_wp2
  refine wp_loop_rounds 2 ?_
  rw [rounds_succ]
  go_wp2_with (go_at_call 59; refine (s3_ap62 g x _ y HG.out HF.out).mono ?_; rintro e w' ⟨rfl, rfl⟩)
  rw [rounds_succ]
  go_wp2
  go_end0
  exact ⟨rfl, rfl⟩

theorem s3_m63 (x : Int) (w : World) : (method 225 63 (.int .u64 x) "ApplyS3").run Try.prog w = .ok (61, .int .u64 x) w := by kernel_rfl
set_option maxHeartbeats 1000000 in
theorem s3_ap63 (g : Nat) (x : Int) (w : World) (y : Value) (hg : w.cell? ⟨g, 3, none⟩ = some y) (hf : w.frozen? ⟨g, 3, none⟩ = false) :
    Calls Try.prog 61 #[.int .u64 x, .pointer (some ⟨g, 0, none⟩)] w fun e w' => e = .returned (.tuple #[]) ∧ w' = w.setCell ⟨g, 3, none⟩ (.int .u64 x) := by
  go_enter Try.func61, Try.ntmps61
  go_wp2
  go_end0
  exact ⟨rfl, rfl⟩
set_option maxRecDepth 100000 in
set_option maxHeartbeats 1000000 in
theorem s3_upd63 (g b : Nat) (x : Int) (w : World) (hb : w.cell? ⟨b, 0, none⟩ = some (.iface 63 (.int .u64 x))) (y : Value) (hg : w.cell? ⟨g, 3, none⟩ = some y) (hf : w.frozen? ⟨g, 3, none⟩ = false) :
    Calls Try.prog 27 #[.pointer (some ⟨g, 0, none⟩), .slice (some ⟨b, 0, none⟩) 1 1] w fun e w' => e = .returned (.tuple #[]) ∧ w' = w.setCell ⟨g, 3, none⟩ (.int .u64 x) := by
  have hm := s3_m63
  have HG := Lib.hid hg
  have HF := Lib.hid hf
  clear hg hf
  go_enter Try.func27, Try.ntmps27
  go_wp2
  refine wp_loop_rounds 2 ?_
  rw [rounds_succ]
  go_wp2_with (go_at_call 61; refine (s3_ap63 g x _ y HG.out HF.out).mono ?_; rintro e w' ⟨rfl, rfl⟩)
  rw [rounds_succ]
  go_wp2
  go_end0
  exact ⟨rfl, rfl⟩

set_option maxHeartbeats 1000000 in
theorem df_upd0 (p : Value) (w : World) :
    Calls Try.prog 35 #[p, .slice none 0 0] w fun e w' => e = .returned (.tuple #[]) ∧ w = w' := by
  go_enter Try.func35, Try.ntmps35
  go_wp2
  refine wp_loop_rounds 1 ?_
  rw [rounds_succ]
  go_wp2
  go_end0
  exact ⟨rfl, rfl⟩

theorem df_m60 (x : Int) (w : World) : (method 225 60 (.int .i64 x) "ApplyDefault").run Try.prog w = .ok (54, .int .i64 x) w := by kernel_rfl
set_option maxHeartbeats 1000000 in
theorem df_ap60 (g : Nat) (x : Int) (w : World) (y : Value) (hg : w.cell? ⟨g, 0, none⟩ = some y) (hf : w.frozen? ⟨g, 0, none⟩ = false) :
    Calls Try.prog 54 #[.int .i64 x, .pointer (some ⟨g, 0, none⟩)] w fun e w' => e = .returned (.tuple #[]) ∧ w' = w.setCell ⟨g, 0, none⟩ (.int .i64 x) := by
  go_enter Try.func54, Try.ntmps54
  go_wp2
  go_end0
  exact ⟨rfl, rfl⟩
set_option maxRecDepth 100000 in
set_option maxHeartbeats 1000000 in
theorem df_upd60 (g b : Nat) (x : Int) (w : World) (hb : w.cell? ⟨b, 0, none⟩ = some (.iface 60 (.int .i64 x))) (y : Value) (hg : w.cell? ⟨g, 0, none⟩ = some y) (hf : w.frozen? ⟨g, 0, none⟩ = false) :
    Calls Try.prog 35 #[.pointer (some ⟨g, 0, none⟩), .slice (some ⟨b, 0, none⟩) 1 1] w fun e w' => e = .returned (.tuple #[]) ∧ w' = w.setCell ⟨g, 0, none⟩ (.int .i64 x) := by
  have hm := df_m60
  have HG := Lib.hid hg
  have HF := Lib.hid hf
  clear hg hf
  go_enter Try.func35, Try.ntmps35
  go_wp2
  refine wp_loop_rounds 2 ?_
  rw [rounds_succ]
  go_wp2_with (go_at_call 54; refine (df_ap60 g x _ y HG.out HF.out).mono ?_; rintro e w' ⟨rfl, rfl⟩)
  rw [rounds_succ]
  go_wp2
  go_end0
  exact ⟨rfl, rfl⟩

theorem df_m61 (x : Int) (w : World) : (method 225 61 (.int .i64 x) "ApplyDefault").run Try.prog w = .ok (56, .int .i64 x) w := by kernel_rfl
set_option maxHeartbeats 1000000 in
theorem df_ap61 (g : Nat) (x : Int) (w : World) (y : Value) (hg : w.cell? ⟨g, 1, none⟩ = some y) (hf : w.frozen? ⟨g, 1, none⟩ = false) :
    Calls Try.prog 56 #[.int .i64 x, .pointer (some ⟨g, 0, none⟩)] w fun e w' => e = .returned (.tuple #[]) ∧ w' = w.setCell ⟨g, 1, none⟩ (.int .i64 x) := by
  go_enter Try.func56, Try.ntmps56
  go_wp2
  go_end0
  exact ⟨rfl, rfl⟩
set_option maxRecDepth 100000 in
set_option maxHeartbeats 1000000 in
theorem df_upd61 (g b : Nat) (x : Int) (w : World) (hb : w.cell? ⟨b, 0, none⟩ = some (.iface 61 (.int .i64 x))) (y : Value) (hg : w.cell? ⟨g, 1, none⟩ = some y) (hf : w.frozen? ⟨g, 1, none⟩ = false) :
    Calls Try.prog 35 #[.pointer (some ⟨g, 0, none⟩), .slice (some ⟨b, 0, none⟩) 1 1] w fun e w' => e = .returned (.tuple #[]) ∧ w' = w.setCell ⟨g, 1, none⟩ (.int .i64 x) := by
  have hm := df_m61
  have HG := Lib.hid hg
  have HF := Lib.hid hf
  clear hg hf
  go_enter Try.func35, Try.ntmps35
  go_wp2
  refine wp_loop_rounds 2 ?_
  rw [rounds_succ]
  go_wp2_with (go_at_call 56; refine (df_ap61 g x _ y HG.out HF.out).mono ?_; rintro e w' ⟨rfl, rfl⟩)
  rw [rounds_succ]
  go_wp2
  go_end0
  exact ⟨rfl, rfl⟩

theorem df_m62 (x : Int) (w : World) : (method 225 62 (.int .u64 x) "ApplyDefault").run Try.prog w = .ok (58, .int .u64 x) w := by kernel_rfl
set_option maxHeartbeats 1000000 in
theorem df_ap62 (g : Nat) (x : Int) (w : World) (y : Value) (hg : w.cell? ⟨g, 2, none⟩ = some y) (hf : w.frozen? ⟨g, 2, none⟩ = false) :
    Calls Try.prog 58 #[.int .u64 x, .pointer (some ⟨g, 0, none⟩)] w fun e w' => e = .returned (.tuple #[]) ∧ w' = w.setCell ⟨g, 2, none⟩ (.int .u64 x) := by
  go_enter Try.func58, Try.ntmps58
  go_wp2
  go_end0
  exact ⟨rfl, rfl⟩
set_option maxRecDepth 100000 in
set_option maxHeartbeats 1000000 in
theorem df_upd62 (g b : Nat) (x : Int) (w : World) (hb : w.cell? ⟨b, 0, none⟩ = some (.iface 62 (.int .u64 x))) (y : Value) (hg : w.cell? ⟨g, 2, none⟩ = some y) (hf : w.frozen? ⟨g, 2, none⟩ = false) :
    Calls Try.prog 35 #[.pointer (some ⟨g, 0, none⟩), .slice (some ⟨b, 0, none⟩) 1 1] w fun e w' => e = .returned (.tuple #[]) ∧ w' = w.setCell ⟨g, 2, none⟩ (.int .u64 x) := by
  have hm := df_m62
  have HG := Lib.hid hg
  have HF := Lib.hid hf
  clear hg hf
  go_enter Try.func35, Try.ntmps35
  go_wp2
  refine wp_loop_rounds 2 ?_
  rw [rounds_succ]
  go_wp2_with (go_at_call 58; refine (df_ap62 g x _ y HG.out HF.out).mono ?_; rintro e w' ⟨rfl, rfl⟩)
  rw [rounds_succ]
  go_wp2
  go_end0
  exact ⟨rfl, rfl⟩

theorem df_m63 (x : Int) (w : World) : (method 225 63 (.int .u64 x) "ApplyDefault").run Try.prog w = .ok (60, .int .u64 x) w := by kernel_rfl
set_option maxHeartbeats 1000000 in
theorem df_ap63 (g : Nat) (x : Int) (w : World) (y : Value) (hg : w.cell? ⟨g, 3, none⟩ = some y) (hf : w.frozen? ⟨g, 3, none⟩ = false) :
    Calls Try.prog 60 #[.int .u64 x, .pointer (some ⟨g, 0, none⟩)] w fun e w' => e = .returned (.tuple #[]) ∧ w' = w.setCell ⟨g, 3, none⟩ (.int .u64 x) := by
  go_enter Try.func60, Try.ntmps60
  go_wp2
  go_end0
  exact ⟨rfl, rfl⟩
set_option maxRecDepth 100000 in
set_option maxHeartbeats 1000000 in
theorem df_upd63 (g b : Nat) (x : Int) (w : World) (hb : w.cell? ⟨b, 0, none⟩ = some (.iface 63 (.int .u64 x))) (y : Value) (hg : w.cell? ⟨g, 3, none⟩ = some y) (hf : w.frozen? ⟨g, 3, none⟩ = false) :
    Calls Try.prog 35 #[.pointer (some ⟨g, 0, none⟩), .slice (some ⟨b, 0, none⟩) 1 1] w fun e w' => e = .returned (.tuple #[]) ∧ w' = w.setCell ⟨g, 3, none⟩ (.int .u64 x) := by
  have hm := df_m63
  have HG := Lib.hid hg
  have HF := Lib.hid hf
  clear hg hf
  go_enter Try.func35, Try.ntmps35
  go_wp2
  refine wp_loop_rounds 2 ?_
  rw [rounds_succ]
  go_wp2_with (go_at_call 60; refine (df_ap63 g x _ y HG.out HF.out).mono ?_; rintro e w' ⟨rfl, rfl⟩)
  rw [rounds_succ]
  go_wp2
  go_end0
  exact ⟨rfl, rfl⟩

end Go.Proofs.Ytgdjplpbpknfmaa.Given
