/- The contracts of sanitize.zzInSet and zzTrimLeft at the set "/": whether a rune is the slash; a text without the slashes at its beginning. No conditions else. -/
import Derived.Test.YtkdmdoflfaldiaaProg
import Derived.WalkKit
import Derived.WalkSpells
import Derived.WalkLawsBesides
import Derived.Lib.Hide
import Derived.Lib.OthersKept
import Derived.Deep.LoopGhost
import Derived.BigCall
import Derived.BigGuard
import Derived.Deep.DeepMust
import Derived.Test.YtkdmdoflfaldiaaPl
namespace Go.Proofs.Ytkdmdoflfaldiaa.Given
open Go.RowKit Go.Proofs.Ytkdmdoflfaldiaa.Pl Go.Proofs.YtkdmdoflfaldiaaW.PrintWords

def slashB : ByteArray := ⟨#[47]⟩

theorem ret_bool {a b : Bool} (h : a = b) : Ending.returned (.bool a) = .returned (.bool b) := by rw [h]
theorem ret_str {a b : ByteArray} (h : a = b) : Ending.returned (.string a) = .returned (.string b) := by rw [h]

set_option maxHeartbeats 400000 in
theorem inSet (c : Int) (w : World) :
    Calls Try.prog 52 #[.int .i32 c, .string slashB] w fun e w' => e = .returned (.bool (decide (c = 47))) ∧ Below w.heap.size w w' := by
  go_enter Try.func52, Try.ntmps52
  go_wp2
  go_loopw [] (fun w' => ∃ (pos : Nat), w' = w.iter slashB pos ∧ (pos = 0 ∨ pos = 1 ∧ c ≠ 47)) (fun w' => slashB.size - w'.iterPos w.heap.size)
  case atStart => exact ⟨0, rfl, .inl rfl⟩
  case round =>
    obtain ⟨pos, rfl, hc⟩ := hrel
    rcases hc with rfl | ⟨rfl, hc⟩
    · have hnx : ∀ ty, (Instr.next (.pointer (some ⟨w.heap.size, 0, none⟩)) true ty).run Try.prog (w.iter slashB 0) = .ok (.tuple #[.bool true, .int .i64 ((0 : Nat) : Int), .int .i32 47]) (w.iter slashB 1) := fun ty => run_next_any w slashB 0 ty (by decide)
      by_cases he : c = 47
      · have he' : (c == 47) = true := by simp [he]
        go_wp2
        go_ret
        exact ⟨ret_bool (by simp [he]), (Below.refl _ _).alloc (Nat.le_refl _) _⟩
      · have he' : (c == 47) = false := by simp [he]
        go_wp2
        go_roundw
        case rel => exact ⟨1, rfl, .inr ⟨rfl, he⟩⟩
        case measure => simp; decide
    · have hnx : ∀ ty, (Instr.next (.pointer (some ⟨w.heap.size, 0, none⟩)) true ty).run Try.prog (w.iter slashB 1) = _ := fun ty => run_next_end w slashB 1 ty (by decide)
      go_wp2
      go_ret
      exact ⟨ret_bool (by simp [hc]), (Below.refl _ _).alloc (Nat.le_refl _) _⟩

/-- The first place, from pos on, that has no slash. -/
def lead (s : ByteArray) : Nat → Nat → Nat
  | 0, pos => pos
  | n + 1, pos => if pos < s.size then (if bt s pos = 47 then lead s n (pos + 1) else pos) else pos

set_option maxHeartbeats 1000000 in
theorem trimLeft (s : ByteArray) (w : World) :
    Calls Try.prog 47 #[.string s, .string slashB] w fun e w' => e = .returned (.string (s.extract (lead s s.size 0) s.size)) ∧ Below w.heap.size w w' := by
  obtain ⟨r, hr⟩ : ∃ r, lead s s.size 0 = r := ⟨_, rfl⟩
  rw [hr]
  go_enter Try.func47, Try.ntmps47
  go_wp2
  go_loopg [] s.size (fun gf wx => ∃ (pos : Nat), wx.heap[w.heap.size]? = some (.stringIter s pos) ∧ Below w.heap.size w wx ∧ Hid (lead s gf pos = r) ∧ s.size ≤ pos + gf ∧ pos ≤ s.size)
  case atStart => exact ⟨0, World.iter_heap w s 0, (Below.refl _ _).alloc (Nat.le_refl _) _, Lib.hid hr, by omega, by omega⟩
  case round =>
    obtain ⟨pos, hit, hbw, hh, hfu, hps⟩ := hrel
    by_cases hlt : pos < s.size
    · obtain ⟨g', rfl⟩ : ∃ g', gk = g' + 1 := ⟨gk - 1, by omega⟩
      have hnx : ∀ ty, (Instr.next (.pointer (some ⟨w.heap.size, 0, none⟩)) true ty).run Try.prog wr = _ := fun ty => Lib.run_next_any_at wr w.heap.size s pos ty hit hlt
      by_cases he : bt s pos = 47
      · have hd := decode_one s pos hlt (by omega)
        rw [he] at hd
        rw [hd] at hnx
        have hit2 := Lib.iterAt_heap wr w.heap.size s pos (pos + 1) hit
        have hbw2 := Lib.below_iterAt hbw (k := w.heap.size) (Nat.le_refl _) s (pos + 1)
        obtain ⟨W, hWd⟩ : ∃ W, wr.iterAt w.heap.size s (pos + 1) = W := ⟨_, rfl⟩
        simp only [] at hnx
        rw [hWd] at hnx hit2 hbw2
        have hh2 : Hid (lead s g' (pos + 1) = r) := Lib.hid (by rw [← hh.out]; simp [lead, hlt, he])
        have cS := inSet 47 W
        clear hh hit hbw
        go_wp2_with (go_at_call 52; go_must (refine cS.mono ?_; rintro e W' ⟨rfl, hW'⟩))
        go_roundg g'
        case rel => exact ⟨pos + 1, (hW'.block w.heap.size (Array.getElem?_eq_some_iff.1 hit2).1).trans hit2, hbw2.trans (hW'.mono hbw2.size), hh2, by omega, by omega⟩
        case measure => omega
      · have hne : ¬ (Utf8.decode s pos).1 = 47 := fun h => he ((decode_small s pos hlt 47 (by omega)).1 h)
        have hv : Hid (pos = r) := Lib.hid (by rw [← hh.out]; simp [lead, hlt, he])
        obtain ⟨R, hR⟩ : ∃ R, (Utf8.decode s pos).1 = R := ⟨_, rfl⟩
        rw [hR] at hnx hne
        have hbw2 := Lib.below_iterAt hbw (k := w.heap.size) (Nat.le_refl _) s (pos + (Utf8.decode s pos).2)
        obtain ⟨W, hWd⟩ : ∃ W, wr.iterAt w.heap.size s (pos + (Utf8.decode s pos).2) = W := ⟨_, rfl⟩
        rw [hWd] at hnx hbw2
        have cS := inSet R W
        rw [decide_eq_false (by omega)] at cS
        clear hh
        go_wp2_with (go_at_call 52; go_must (refine cS.mono ?_; rintro e W' ⟨rfl, hW'⟩))
        go_ret
        exact ⟨ret_str (by rw [← hv.out]), hbw2.trans (hW'.mono hbw2.size)⟩
    · have hnx : ∀ ty, (Instr.next (.pointer (some ⟨w.heap.size, 0, none⟩)) true ty).run Try.prog wr = _ := fun ty => Lib.run_next_end_at wr w.heap.size s pos ty hit hlt
      have hv : Hid (pos = r) := Lib.hid (by rw [← hh.out]; cases gk <;> simp [lead, hlt])
      clear hh
      go_wp2
      go_ret
      refine ⟨ret_str ?_, hbw⟩
      rw [← hv.out, (size_nil (a := s.extract pos s.size)).1 (by rw [ByteArray.size_extract]; omega)]
end Go.Proofs.Ytkdmdoflfaldiaa.Given
