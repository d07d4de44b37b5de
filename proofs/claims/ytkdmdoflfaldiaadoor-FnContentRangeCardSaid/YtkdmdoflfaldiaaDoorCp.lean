/- errors.New, strconv.ParseInt: what they answer. -/
import Derived.Test.YtkdmdoflfaldiaaDoorZp
import Derived.Test.YtkdmdoflfaldiaaDoorCi
import Derived.Shelf.Strconv.ErrVarParseInt
namespace Go.Proofs.YtkdmdoflfaldiaaDoor.Given
open Go.RowKit Go.Proofs.YtkdmdoflfaldiaaDoorW.PrintWords Go.Proofs.YtkdmdoflfaldiaaDoorW.PrintLast Go.Proofs.YtkdmdoflfaldiaaDoorW.PrintMore
open Go.Proofs.YtkdmdoflfaldiaaDoor.Zp
set_option linter.unusedVariables false
set_option linter.unusedSimpArgs false

/-- The two errors of strconv lie in their variables. -/
structure Ev (w : World) : Prop where
  syn : ∃ te pe, w.cell? ⟨0, 0, none⟩ = some (.iface te pe)
  rng : ∃ te pe, w.cell? ⟨1, 0, none⟩ = some (.iface te pe)
theorem Ev.below {w w' : World} (h : Ev w) (hb : Below w.heap.size w w') : Ev w' := by
  obtain ⟨⟨a, b, h1⟩, ⟨c, d, h2⟩⟩ := h
  exact ⟨⟨a, b, (hb.cell (World.block_lt_of_cell? w _ h1)).trans h1⟩, ⟨c, d, (hb.cell (World.block_lt_of_cell? w _ h2)).trans h2⟩⟩
theorem new10 (s : ByteArray) (w : World) : Calls Tryd.prog 10 #[.string s] w fun e w' => e = .returned (.iface 40 (.pointer (some ⟨w.heap.size, 0, none⟩))) ∧ Below w.heap.size w w' := by
  have hb : ∀ os, Below w.heap.size w (w.alloc os) := fun os => (Below.refl _ w).alloc (Nat.le_refl _) _
  go_enter Tryd.func10, Tryd.ntmps10
  go_wp2
  go_ret
  exact ⟨rfl, hb _⟩
/-- A decimal number of 64 bits, or none. -/
def pI (l : List UInt8) : Option Int := match Lib.parseIntB 64 l with
  | .ok v => some v
  | _ => none
/-- strconv.ParseInt(s, 10, 64): the number and no error, or an error. -/
theorem int12 (s : ByteArray) (w : World) (hs : s.size ≤ 1000000000) (hE : Ev w) :
    Calls Tryd.prog 12 #[.string s, .int .i64 10, .int .i64 64] w fun e w' => ∃ v ev, e = .returned (.tuple #[.int .i64 v, ev]) ∧ (match pI (tl s) with | some u => v = u ∧ ev = .nilIface | none => ∃ p, ev = .iface 50 p) ∧ Below w.heap.size w w' := by
  obtain ⟨⟨te, pe, h1⟩, ⟨te2, pe2, h2⟩⟩ := hE
  have hl : tl s = s.data.toList := rfl
  unfold pI
  cases h : Lib.parseIntB 64 s.data.toList
  case ok v =>
    refine (Any.strconv_ParseInt_10_at64_ok Laid.L174 s (by omega) v h w).mono ?_
    rintro e w' ⟨rfl, hw⟩
    refine ⟨v, .nilIface, rfl, by rw [hl, h]; exact ⟨rfl, rfl⟩, ?_⟩
    rcases hw with rfl | ⟨t, rfl⟩
    · exact Below.refl _ _
    · exact (Below.refl _ w).trans ⟨rfl, rfl, rfl, by rw [Lib.bytesWorld_size]; omega, fun k hk => Lib.bytesWorld_at_old w _ t k hk⟩
  case range =>
    refine (Any.strconv_ParseInt_10_at64_range Laid.L174 s (by omega) h (.iface te2 pe2) w h2 (.inr ⟨te2, pe2, rfl⟩)).mono ?_
    rintro e w' ⟨N, rfl, _, _, hb⟩
    exact ⟨_, _, rfl, by rw [hl, h]; exact ⟨_, rfl⟩, hb⟩
  all_goals
    refine (Any.strconv_ParseInt_10_at64_syntax Laid.L174 s (by omega) h (.iface te pe) w h1 (.inr ⟨te, pe, rfl⟩)).mono ?_
    rintro e w' ⟨N, rfl, _, _, hb⟩
    exact ⟨_, _, rfl, by rw [hl, h]; exact ⟨_, rfl⟩, hb⟩
end Go.Proofs.YtkdmdoflfaldiaaDoor.Given
