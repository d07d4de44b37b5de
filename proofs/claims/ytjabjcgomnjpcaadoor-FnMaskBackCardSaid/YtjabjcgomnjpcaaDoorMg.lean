/- MultiEncoder.String: what it answers. -/
import Derived.Test.YtjabjcgomnjpcaaDoorMf
import Derived.Test.YtjabjcgomnjpcaaDoorMj
import Derived.Test.YtjabjcgomnjpcaaDoorPMx1
namespace Go.Proofs.YtjabjcgomnjpcaaDoor.Given
open Go.RowKit Go.Proofs.YtjabjcgomnjpcaaDoorW.PrintWords Go.Proofs.YtjabjcgomnjpcaaDoorW.PrintLast Go.Proofs.YtjabjcgomnjpcaaDoorW.PrintMore Go.Proofs.YtjabjcgomnjpcaaDoor.PM
open Go.Proofs.YtjabjcgomnjpcaaDoor.Zp
set_option linter.unusedVariables false
set_option linter.unusedSimpArgs false

theorem form30 (u : Nat) (w : World) (hu : u < 2 ^ 64) (h : Dv w) : Calls Tryd.prog 30 #[.int .u64 (u : Int), .int .i64 16] w fun e w' => e = .returned (.string (strB (hexL 16 u []))) ∧ Below w.heap.size w w' := by
  have c47 := bits47 u w hu h
  obtain ⟨t, ht⟩ : ∃ t, strB (hexL 16 u []) = t := ⟨_, rfl⟩
  rw [ht] at c47 ⊢
  clear ht
  go_enter Tryd.func30, Tryd.ntmps30
  go_wp2_with (go_at_call 47; refine c47.mono ?_; rintro e w1 ⟨rfl, h1⟩)
  go_ret
  exact ⟨rfl, h1⟩
theorem form17 (u : Nat) (w : World) (hu : u < 2 ^ 64) (h : Dv w) : Calls Tryd.prog 17 #[.int .u64 (u : Int), .int .i64 16] w fun e w' => e = .returned (.string (strB (hexL 16 u []))) ∧ Below w.heap.size w w' := by
  have c30 := form30 u w hu h
  obtain ⟨t, ht⟩ : ∃ t, strB (hexL 16 u []) = t := ⟨_, rfl⟩
  rw [ht] at c30 ⊢
  clear ht
  go_enter Tryd.func17, Tryd.ntmps17
  go_wp2_with (go_at_call 30; refine c30.mono ?_; rintro e w1 ⟨rfl, h1⟩)
  go_ret
  exact ⟨rfl, h1⟩
theorem hexL_ascii : ∀ (f u : Nat) (r : List UInt8), (∀ b ∈ r, b.toNat < 128) → ∀ b ∈ hexL f u r, b.toNat < 128
  | 0, u, r, h, b, hb => h b hb
  | f + 1, u, r, h, b, hb => by
    have hd : ∀ t : Fin 16, (UInt8.ofNat (if t.val < 10 then 48 + t.val else 87 + t.val)).toNat < 128 := by decide
    unfold hexL at hb
    split at hb
    · rename_i h16
      rw [List.mem_cons] at hb
      rcases hb with rfl | hb
      · exact hd ⟨u, h16⟩
      · exact h b hb
    · refine hexL_ascii f (u / 16) _ (fun c hc => ?_) b hb
      rw [List.mem_cons] at hc
      rcases hc with rfl | hc
      · exact hd ⟨u % 16, by omega⟩
      · exact h c hc
theorem hexL_len : ∀ (f u : Nat) (r : List UInt8), (hexL f u r).length ≤ f + r.length
  | 0, u, r => by show r.length ≤ _; omega
  | f + 1, u, r => by
    unfold hexL
    split
    · rw [List.length_cons]; omega
    · have := hexL_len f (u / 16) (UInt8.ofNat (if u % 16 < 10 then 48 + u % 16 else 87 + u % 16) :: r)
      rw [List.length_cons] at this
      omega
theorem name_tot (a : Int) : ∃ l b, encoder_encodingToName.f a = some (strB l, b) ∧ l.length ≤ 100 := by
  have key : ∀ (c : Prop) [Decidable c] (x y : Option (ByteArray × Bool)), (∃ l b, x = some (strB l, b) ∧ l.length ≤ 100) → (∃ l b, y = some (strB l, b) ∧ l.length ≤ 100) → ∃ l b, (if c then x else y) = some (strB l, b) ∧ l.length ≤ 100 := by
    intro c _ x y h1 h2
    split
    · exact h1
    · exact h2
  unfold encoder_encodingToName.f
  repeat' (with_reducible refine key _ _ _ ?_ ?_)
  all_goals exact ⟨_, _, rfl, by decide⟩
/-- The name of one value, where it has one. -/
def nmB (a : Int) : Option (List UInt8) := match encoder_encodingToName.f a with
  | some (n, true) => some (tl n)
  | _ => none
/-- The name of one bit. -/
def bitNm (k : Nat) : List UInt8 := match nmB ((2 ^ k : Nat) : Int) with
  | some n => n
  | none => 48 :: 120 :: Lib.toUpperA (hexL 16 (2 ^ k) [])
def nmsF (m : Nat) : Nat → Nat → List (List UInt8)
  | 0, _ => []
  | f + 1, k => if m.testBit k then bitNm k :: nmsF m f (k + 1) else nmsF m f (k + 1)
/-- A mask's text. -/
def textM (m : Nat) : List UInt8 := match nmB (m : Int) with
  | some n => n
  | none => Lib.join (nmsF m 64 0) [44]
theorem nms_len (m : Nat) : ∀ f k, (nmsF m f k).length ≤ f
  | 0, _ => Nat.le_refl _
  | f + 1, k => by
    unfold nmsF
    have := nms_len m f (k + 1)
    split
    · rw [List.length_cons]; omega
    · omega
theorem bitNm_len (k : Nat) : (bitNm k).length ≤ 100 := by
  unfold bitNm nmB
  obtain ⟨l, b, h, hl⟩ := name_tot ((2 ^ k : Nat) : Int)
  rw [h]
  have h2 := hexL_len 16 (2 ^ k) []
  have h3 : (Lib.toUpperA (hexL 16 (2 ^ k) [])).length = (hexL 16 (2 ^ k) []).length := by unfold Lib.toUpperA; rw [List.length_map]
  cases b with
  | true =>
    show (tl (strB l)).length ≤ 100
    rw [tl_strB]
    exact hl
  | false =>
    show (48 :: 120 :: Lib.toUpperA (hexL 16 (2 ^ k) [])).length ≤ 100
    rw [List.length_cons, List.length_cons, h3]
    rw [List.length_nil] at h2
    omega
theorem nms_each (m : Nat) : ∀ f k, ∀ x ∈ nmsF m f k, x.length ≤ 100
  | 0, _, x, hx => by cases hx
  | f + 1, k, x, hx => by
    unfold nmsF at hx
    split at hx
    · rw [List.mem_cons] at hx
      rcases hx with rfl | hx
      · exact bitNm_len k
      · exact nms_each m f (k + 1) x hx
    · exact nms_each m f (k + 1) x hx
theorem and64 (a b : Nat) (ha : a < 2 ^ 64) (hb : b < 2 ^ 64) : Go.bits .and .u64 (a : Int) (b : Int) = ((a &&& b : Nat) : Int) := by
  have h : (BitVec.ofInt 64 (a : Int) &&& BitVec.ofInt 64 (b : Int)).toNat = a &&& b := by
    rw [BitVec.toNat_and, BitVec.ofInt_natCast, BitVec.ofInt_natCast, BitVec.toNat_ofNat, BitVec.toNat_ofNat, Nat.mod_eq_of_lt ha, Nat.mod_eq_of_lt hb]
  have hlt : a &&& b < 2 ^ 64 := Nat.lt_of_le_of_lt Nat.and_le_left ha
  have h2 : Go.bits .and .u64 (a : Int) (b : Int) = IntKind.u64.wrap (((BitVec.ofInt 64 (a : Int) &&& BitVec.ofInt 64 (b : Int)).toNat : Nat) : Int) := rfl
  rw [h2, h]
  show ((a &&& b : Nat) : Int) % 18446744073709551616 = _
  omega
/-- The bit behind the last is none. -/
def bitV (k : Nat) : Int := if k < 64 then ((2 ^ k : Nat) : Int) else 0
theorem bitV_next (k : Nat) (hk : k < 64) : IntKind.u64.wrap (((2 ^ k : Nat) : Int) * 2) = bitV (k + 1) := by
  have hall : ∀ k : Fin 64, IntKind.u64.wrap (((2 ^ k.val : Nat) : Int) * 2) = bitV (k.val + 1) := by decide
  exact hall ⟨k, hk⟩
end Go.Proofs.YtjabjcgomnjpcaaDoor.Given
