/- The contract of bucket.zzIndexRune, for every string and every rune: the first place at which the rune stands, -1 if it stands nowhere. No conditions. -/
import Derived.Test.YtcomnkbkkpeilaaProg
import Derived.WalkKit
import Derived.WalkSpells
import Derived.WalkLawsBesides
import Derived.Lib.Hide
import Derived.Test.YtcomnkbkkpeilaaPl
namespace Go.Proofs.Ytcomnkbkkpeilaa.Given
open Go.RowKit Go.Proofs.Ytcomnkbkkpeilaa.Pl

theorem ret_int {k : IntKind} {a b : Int} (h : a = b) : Ending.returned (.int k a) = .returned (.int k b) := by rw [h]

def bucket_zzIndexRune.f (a0 : ByteArray) (a1 : Int) : Option Int := if a1 = 47 then some (idxRune a0 47 a0.size 0) else none

set_option maxHeartbeats 400000 in
theorem bucket_zzIndexRune.calls (s : ByteArray) (a1 : Int) (r : Int) (w : World) (h : bucket_zzIndexRune.f s a1 = some r) :
    Calls Try.prog 11 #[.string s, .int .i32 a1] w fun e w' => e = .returned (.int .i64 r) ∧ Below w.heap.size w w' := by
  have h1 : a1 = 47 := by unfold bucket_zzIndexRune.f at h; split at h <;> simp_all
  subst h1
  have hr : Hid (idxRune s 47 s.size 0 = r) := Lib.hid (by simpa [bucket_zzIndexRune.f] using h)
  clear h
  go_enter Try.func11, Try.ntmps11
  go_wp2
  go_loopw [] (fun w' => ∃ (pos b : Nat), w' = w.iter s pos ∧ Hid (idxRune s 47 b pos = r) ∧ s.size ≤ pos + b) (fun w' => s.size - w'.iterPos w.heap.size)
  case atStart => exact ⟨0, s.size, rfl, hr, by omega⟩
  case round =>
    obtain ⟨pos, b, rfl, hc, hb⟩ := hrel
    by_cases hp : pos < s.size
    · have hnx : ∀ ty, (Instr.next (.pointer (some ⟨w.heap.size, 0, none⟩)) true ty).run Try.prog (w.iter s pos) = _ := fun ty => run_next_any w s pos ty hp
      obtain ⟨b, rfl⟩ : ∃ b', b = b' + 1 := ⟨b - 1, by omega⟩
      by_cases he : ((Utf8.decode s pos).1 : Int) = 47
      · have he' : (((Utf8.decode s pos).1 : Int) == 47) = true := by simp [he]
        have hv : Hid ((pos : Int) = r) := Lib.hid (by rw [← hc.out]; simp [idxRune, hp, he])
        clear he hc
        go_wp2
        go_ret
        exact ⟨ret_int hv.out, (Below.refl _ _).alloc (Nat.le_refl _) _⟩
      · have he' : (((Utf8.decode s pos).1 : Int) == 47) = false := by simp [he]
        have hwd := width_pos s pos hp
        have hc' : Hid (idxRune s 47 b (pos + (Utf8.decode s pos).2) = r) := Lib.hid (by rw [← hc.out]; simp [idxRune, hp, he])
        clear he hc
        go_wp2
        go_roundw
        case rel => exact ⟨_, b, rfl, hc', by omega⟩
        case measure => simp; omega
    · have hnx : ∀ ty, (Instr.next (.pointer (some ⟨w.heap.size, 0, none⟩)) true ty).run Try.prog (w.iter s pos) = _ := fun ty => run_next_end w s pos ty hp
      have hv : Hid (-1 = r) := Lib.hid (by rw [← hc.out]; cases b <;> simp [idxRune, hp])
      clear hc
      go_wp2
      go_ret
      exact ⟨ret_int hv.out, (Below.refl _ _).alloc (Nat.le_refl _) _⟩
end Go.Proofs.Ytcomnkbkkpeilaa.Given
