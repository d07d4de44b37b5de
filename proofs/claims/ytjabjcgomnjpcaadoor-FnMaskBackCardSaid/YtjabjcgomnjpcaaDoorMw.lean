/- What Set calls: TrimSpace, nameToEncoding, ParseUint, errors.New. -/
import Derived.Test.YtjabjcgomnjpcaaDoorMp
import Derived.Test.YtjabjcgomnjpcaaDoorMq
import Derived.Test.YtjabjcgomnjpcaaDoorMl
import Derived.Lib.SmallJoins
namespace Go.Proofs.YtjabjcgomnjpcaaDoor.Given
open Go.RowKit Go.Proofs.YtjabjcgomnjpcaaDoorW.PrintWords Go.Proofs.YtjabjcgomnjpcaaDoorW.PrintLast Go.Proofs.YtjabjcgomnjpcaaDoorW.PrintMore Go.Proofs.YtjabjcgomnjpcaaDoor.PM
open Go.Proofs.YtjabjcgomnjpcaaDoor.Zp
set_option linter.unusedVariables false
set_option linter.unusedSimpArgs false

/-- The two errors of strconv and the table of white space lie in their variables. -/
structure Ev (w : World) : Prop where
  syn : ∃ te pe, w.cell? ⟨4, 0, none⟩ = some (.iface te pe)
  rng : ∃ te pe, w.cell? ⟨5, 0, none⟩ = some (.iface te pe)
  tab : Lib.TabIs Tryd.prog w "strings.asciiSpace" .u8 Lib.asciiSpaceTab
theorem gSpace : Tryd.prog.globalNamed "strings.asciiSpace" = some 0 := by kernel_rfl
theorem Ev.below {w w' : World} (h : Ev w) (hb : Below w.heap.size w w') : Ev w' := by
  obtain ⟨⟨a, b, h1⟩, ⟨c, d, h2⟩, h3⟩ := h
  exact ⟨⟨a, b, (hb.cell (World.block_lt_of_cell? w _ h1)).trans h1⟩, ⟨c, d, (hb.cell (World.block_lt_of_cell? w _ h2)).trans h2⟩, Joins.tab_stays gSpace h3 hb (Nat.le_refl _)⟩
theorem new23 (s : ByteArray) (w : World) : Calls Tryd.prog 23 #[.string s] w fun e w' => e = .returned (.iface 68 (.pointer (some ⟨w.heap.size, 0, none⟩))) ∧ Below w.heap.size w w' := by
  have hb : ∀ os, Below w.heap.size w (w.alloc os) := fun os => (Below.refl _ w).alloc (Nat.le_refl _) _
  go_enter Tryd.func23, Tryd.ntmps23
  go_wp2
  go_ret
  exact ⟨rfl, hb _⟩
theorem trim20 (s : ByteArray) (w : World) (hs : s.size ≤ 1000000000) (ha : ∀ b ∈ tl s, b.toNat < 128) (hE : Ev w) :
    Calls Tryd.prog 20 #[.string s] w fun e w' => e = .returned (.string (strB (Lib.trimSpace (tl s)))) ∧ Below w.heap.size w w' := by
  refine (Any.strings_TrimSpace Laid.L_n163 Laid.X163 s w (by omega) (fun j b h => ha b (List.mem_of_getElem? h)) hE.tab).mono ?_
  rintro e w' ⟨rfl, rfl⟩
  exact ⟨rfl, Joins.below_bytesWorld _ _ _ _ (Nat.le_refl _)⟩
/-- strconv.ParseUint(s, 0, 0): the number and no error, or an error. -/
theorem parse22 (s : ByteArray) (w : World) (hs : s.size ≤ 1000000) (hE : Ev w) :
    Calls Tryd.prog 22 #[.string s, .int .i64 0, .int .i64 0] w fun e w' => ∃ v er, e = .returned (.tuple #[.int .u64 v, er]) ∧ (match numE (tl s) with | some n => v = (n : Int) ∧ er = .nilIface | none => ∃ p, er = .iface 90 p) ∧ Below w.heap.size w w' := by
  have c35 := parse35 s w hs
  obtain ⟨⟨te, pe, k1⟩, ⟨te2, pe2, k2⟩, _⟩ := hE
  have h36 : ∀ w1 k, (k = 1 ∨ k = 2) → Below w.heap.size w w1 → Calls Tryd.prog 36 #[.string ⟨#[80, 97, 114, 115, 101, 85, 105, 110, 116]⟩, .string s, .int .i64 0, .int .i64 0, .iface 88 (.int .i64 k)] w1 fun e w' => ∃ p, e = .returned (.iface 90 p) ∧ Below w.heap.size w w' := by
    intro w1 k hk hb
    have j1 := (hb.cell (World.block_lt_of_cell? w _ k1)).trans k1
    have j2 := (hb.cell (World.block_lt_of_cell? w _ k2)).trans k2
    rcases hk with rfl | rfl
    · refine (AnyPu.strconv_toError_range Laid.L_n17 _ s 0 0 _ w1 (by omega) j2 (.inr ⟨te2, pe2, rfl⟩)).mono ?_
      rintro e w' ⟨N, rfl, _, _, h⟩
      exact ⟨_, rfl, hb.trans (h.mono hb.size)⟩
    · refine (AnyPu.strconv_toError_syntax Laid.L_n17 _ s 0 0 _ w1 (by omega) j1 (.inr ⟨te, pe, rfl⟩)).mono ?_
      rintro e w' ⟨N, rfl, _, _, h⟩
      exact ⟨_, rfl, hb.trans (h.mono hb.size)⟩
  clear k1 k2
  obtain ⟨R, hR⟩ : ∃ R, numE (tl s) = R := ⟨_, rfl⟩
  rw [hR] at c35 ⊢
  clear hR
  cases R with
  | some n =>
    clear h36
    go_enter Tryd.func22, Tryd.ntmps22
    go_wp2_with (go_at_call 35; refine c35.mono ?_; rintro e w1 ⟨v, rfl, rfl, hb⟩)
    go_ret2
    exact ⟨_, _, rfl, ⟨rfl, rfl⟩, hb⟩
  | none =>
    go_enter Tryd.func22, Tryd.ntmps22
    go_wp2_with (first | (go_at_call 35; refine c35.mono ?_; rintro e w1 ⟨v, rfl, ⟨x, k, hk, rfl⟩, hb⟩) | (go_at_call 36; refine (h36 _ _ hk hb).mono ?_; rintro e w2 ⟨p, rfl, hb2⟩))
    go_ret2
    exact ⟨_, _, rfl, ⟨p, rfl⟩, hb2⟩
end Go.Proofs.YtjabjcgomnjpcaaDoor.Given
