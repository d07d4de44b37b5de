/- The contract of Ranges.Equal, for any two rows of ranges. -/
import Derived.Test.YtmkhkkfliecfdaaGivenA
import Derived.Laws.StructEq
namespace Go.Proofs.Ytmkhkkfliecfdaa.Given
open Go.RowKit Go.Proofs.YtmkhkkfliecfdaaW.PrintWords Go.Proofs.Ytmkhkkfliecfdaa.PT
set_option linter.unusedVariables false
set_option linter.unusedSimpArgs false

def same48 : List S48 → List S48 → Bool
  | [], [] => true
  | x :: xs, y :: ys => (x.f0 == y.f0 && x.f1 == y.f1) && same48 xs ys
  | _, _ => false
theorem same48_len : ∀ {l m : List S48}, l.length ≠ m.length → same48 l m = false
  | [], [], h => absurd rfl h
  | [], _ :: _, _ => rfl
  | _ :: _, [], _ => rfl
  | x :: l, y :: m, h => by
    have := same48_len (l := l) (m := m) (by simpa using h)
    simp [same48, this]
theorem same48_drop {l m : List S48} (k : Nat) (h1 : k < l.length) (h2 : k < m.length) : same48 (l.drop k) (m.drop k) = ((l[k].f0 == m[k].f0 && l[k].f1 == m[k].f1) && same48 (l.drop (k + 1)) (m.drop (k + 1))) := by
  rw [List.drop_eq_getElem_cons h1, List.drop_eq_getElem_cons h2, same48]
theorem same48_iff : ∀ {l m : List S48}, same48 l m = true ↔ l.map p48 = m.map p48
  | [], [] => by simp [same48]
  | [], _ :: _ => by simp [same48]
  | _ :: _, [] => by simp [same48]
  | x :: l, y :: m => by simp [same48, same48_iff (l := l) (m := m), p48]
theorem at48 {w : World} {A : Option Addr} {n : Nat} {l : List S48} (h : Kd.C k48 w A n l) (k : Nat) (hk : k < l.length) :
    ∃ ad, A = some ad ∧ w.cell? (ad.add (k * 2)) = some (.int .i64 (l[k]).f0) ∧ w.cell? ⟨(ad.add (k * 2)).block, (ad.add (k * 2)).off + 1, none⟩ = some (.int .i64 (l[k]).f1) := by
  obtain ⟨ad, e, h1, h2⟩ := at_T48 h (k : Int) (by omega) (by have := h.1; omega)
  rw [Int.toNat_natCast] at h1 h2
  have er : rd_T48 l (k : Int) = l[k] := by simp [rd_T48, hk]
  rw [er] at h1 h2
  exact ⟨ad, e, h1, h2⟩
theorem eqA48 (d : Nat) (w : World) (x0 y0 : Int) (x1 y1 : Int) :
    (Op.equalIn (d + 2) 48 (.agg #[.int .i64 x0, .int .i64 x1]) (.agg #[.int .i64 y0, .int .i64 y1])).run Try.prog w = .ok (x0 == y0 && (x1 == y1)) w := by
  refine eqA_of Try.underlying48 (by kernel_rfl) ?_
  refine eqf_cons (by rfl) (by go_simp; rfl) (by go_simp; rfl) (by go_simp) ?_
  exact eqf_last (by rfl) (by go_simp; rfl) (by go_simp; rfl) (by go_simp)
attribute [local go_sem high] eqA48
theorem equal_none (A0 A1 : Option Addr) (c0 c1 : Nat) (w : World) :
    Calls Try.prog 46 #[.slice A0 0 c0, .slice A1 0 c1] w fun e w' => e = .returned (.bool true) ∧ Drawn0 w w' := by
  have k0 := fun (w : World) (a : Option Addr) (c : Nat) => Lib.run_eql_slice_nil (P := Try.prog) w 51 48 a 0 c 0 0 Try.underlying51
  cases A0 with
  | none =>
    go_enter Try.func46, Try.ntmps46
    go_wp2
    go_ret
    exact ⟨rfl, Drawn0.refl _⟩
  | some a0 =>
    cases A1 with
    | none =>
      go_enter Try.func46, Try.ntmps46
      go_wp2
      go_ret
      exact ⟨rfl, Drawn0.refl _⟩
    | some a1 =>
      go_enter Try.func46, Try.ntmps46
      go_wp2
      refine wp_loop_rounds 1 ?_
      rw [rounds_succ]
      go_wp2
      go_ret
      exact ⟨rfl, Drawn0.refl _⟩
set_option maxRecDepth 100000 in
set_option maxHeartbeats 1000000 in
theorem equal_any (A0 : Option Addr) (c0 : Nat) (l0 : List S48) (A1 : Option Addr) (c1 : Nat) (l1 : List S48) (w : World) (hr0 : Kd.C k48 w A0 l0.length l0) (hr1 : Kd.C k48 w A1 l1.length l1) :
    Calls Try.prog 46 #[.slice A0 l0.length c0, .slice A1 l1.length c1] w fun e w' => e = .returned (.bool (same48 l0 l1)) ∧ Drawn0 w w' := by
  by_cases hlen : l0.length = l1.length
  · rcases Nat.eq_zero_or_pos l0.length with h0 | h0
    · obtain rfl := List.length_eq_zero_iff.1 h0
      obtain rfl := List.length_eq_zero_iff.1 (hlen.symm.trans h0)
      exact equal_none A0 A1 c0 c1 w
    · have hb : ((l0.length : Int) != (l1.length : Int)) = false := by simp [hlen]
      obtain ⟨ad0, rfl, -⟩ := at48 hr0 0 h0
      obtain ⟨ad1, rfl, -⟩ := at48 hr1 0 (by omega)
      have k0 := fun (w : World) (a : Option Addr) (n c : Nat) => Lib.run_eql_slice_nil (P := Try.prog) w 51 48 a n c 0 0 Try.underlying51
      have hmax : l0.length ≤ 9223372036854775807 := hr0.2.1
      have HR0 := Lib.hid hr0
      have HR1 := Lib.hid hr1
      have HL := Lib.hid hlen
      have hu48 := Try.underlying48
      clear hr0 hr1 hlen
      go_enter Try.func46, Try.ntmps46
      go_wp2
      go_loopg [19] l0.length (fun m v19 wr => ∃ (k : Nat), m + k = l0.length ∧ v19 = .int .i64 k ∧ Hid (same48 l0 l1 = same48 (l0.drop k) (l1.drop k)) ∧ Drawn0 w wr)
      case atStart => exact ⟨0, by omega, rfl, Lib.hid (by simp), Drawn0.refl _⟩
      case round =>
        obtain ⟨k, hm, rfl, hsame, ⟨q, rfl⟩⟩ := hrel
        by_cases hlt : k < l0.length
        · have hlt1 : k < l1.length := by rw [← HL.out]; exact hlt
          have hi1 : (k : Int) < (l1.length : Int) := by omega
          have hi0 : (k : Int) < (l0.length : Int) := by omega
          have hk0 : (0 : Int) ≤ (k : Int) := by omega
          have ei1 := eq_true hi1
          have ei0 := eq_true hi0
          obtain ⟨a0, e0, x0, x1⟩ := at48 HR0.out k hlt
          obtain ⟨a1, e1, y0, y1⟩ := at48 HR1.out k hlt1
          obtain rfl := Option.some.inj e0
          obtain rfl := Option.some.inj e1
          have hd := same48_drop k hlt hlt1
          rw [← hsame.out] at hd
          generalize (l0[k]).f0 = p0 at *
          generalize (l0[k]).f1 = p1 at *
          generalize (l1[k]).f0 = q0 at *
          generalize (l1[k]).f1 = q1 at *
          have HD := Lib.hid hd
          clear hd hsame e0 e1
          by_cases hne : (p0 == q0 && p1 == q1) = true
          · have hb8 : (!(p0 == q0) || (!(p1 == q1))) = false := by
              rw [Bool.and_eq_true] at hne; simp [hne.1, hne.2]
            have HN := Lib.hid hne
            clear hne
            go_wp2
            repeat (go_quiet (fail); try go_wp2)
            go_roundg (gk - 1)
            case measure => omega
            case rel => exact ⟨k + 1, by omega, by simp, Lib.hid (by rw [HD.out, HN.out, Bool.true_and]), by repeat (first | exact Drawn0.refl _ | apply Drawn0.step)⟩
          · have hb8 : (!(p0 == q0) || (!(p1 == q1))) = true := by
              simp only [Bool.not_eq_true] at hne
              rw [← Bool.not_and, hne]; rfl
            have HN : Hid ((p0 == q0 && p1 == q1) = false) := Lib.hid (by simpa using hne)
            clear hne
            go_wp2
            repeat (go_quiet (fail); try go_wp2)
            go_ret
            exact ⟨by rw [HD.out, HN.out]; rfl, by repeat (first | exact Drawn0.refl _ | apply Drawn0.step)⟩
        · obtain rfl : k = l0.length := by omega
          go_wp2
          go_ret
          refine ⟨?_, by repeat (first | exact Drawn0.refl _ | apply Drawn0.step)⟩
          have := hsame.out
          rw [List.drop_length, HL.out, List.drop_length] at this
          rw [this]; rfl
  · have hb : ((l0.length : Int) != (l1.length : Int)) = true := by simp; omega
    have hb2 : ((l0.length : Int) == (l1.length : Int)) = false := by simp; omega
    have hb3 : (l0.length == l1.length) = false := by simp; omega
    have HL := Lib.hid hlen
    clear hlen
    go_enter Try.func46, Try.ntmps46
    go_wp2
    go_ret
    exact ⟨by rw [same48_len HL.out]; rfl, Drawn0.refl _⟩
def ranges_Equal.f (l0 : List S48) (l1 : List S48) : Option Bool := some (same48 l0 l1)
theorem ranges_Equal.calls (A0 : Option Addr) (c0 : Nat) (l0 : List S48) (A1 : Option Addr) (c1 : Nat) (l1 : List S48) (r : Bool) (w : World) (hr0 : Kd.C k48 w A0 l0.length l0) (hc0 : l0.length ≤ c0) (hr1 : Kd.C k48 w A1 l1.length l1) (hc1 : l1.length ≤ c1) (h : ranges_Equal.f l0 l1 = some r) :
    Calls Try.prog 46 #[.slice A0 l0.length c0, .slice A1 l1.length c1] w fun e w' => e = .returned (.bool r) ∧ Drawn0 w w' := by
  obtain rfl := Option.some.inj h
  exact equal_any A0 c0 l0 A1 c1 l1 w hr0 hr1
end Go.Proofs.Ytmkhkkfliecfdaa.Given
