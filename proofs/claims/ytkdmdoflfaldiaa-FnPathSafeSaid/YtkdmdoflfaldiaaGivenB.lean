/- The contract of impl.PathClean, for every text of at most 100,000 bytes: refused if a piece between slashes and backslashes is two points; else the cleaned path without the slashes about it. -/
import Derived.Test.YtkdmdoflfaldiaaGivenA
import Derived.Test.YtkdmdoflfaldiaaPSx1
import Derived.Shelf.Path.CleanRules
import Derived.Lib.CleanLen
import Derived.Shelf.Strings.FieldsFuncAny
namespace Go.Proofs.Ytkdmdoflfaldiaa.Given
open Go.RowKit Go.Shelf Go.Lib Go.Proofs.Ytkdmdoflfaldiaa.Pl Go.Proofs.YtkdmdoflfaldiaaW.PrintWords Go.Proofs.YtkdmdoflfaldiaaW.PrintLast Go.Proofs.Ytkdmdoflfaldiaa.PS
set_option linter.unusedVariables false
set_option linter.unusedSimpArgs false

def layC_ren : Go.Shelf.Ren := ⟨fun | 30 => 40 | 46 => 48 | 47 => 49 | 48 => 50 | n => n, fun | 30 => 78 | 42 => 80 | 48 => 88 | n => n, fun n => n⟩
theorem layC : Lays.ph30 Try.prog layC_ren := {
  mixed := by kernel_rfl
  f30 := by kernel_rfl
  f46 := by kernel_rfl
  f47 := by kernel_rfl
  f48 := by kernel_rfl
  t0 := by kernel_rfl
  a0 := fun _ => by kernel_rfl
  z0 := fun _ => by kernel_rfl
  v0 := fun _ => by kernel_rfl
  t3 := by kernel_rfl
  a3 := fun _ => by kernel_rfl
  z3 := fun _ => by kernel_rfl
  v3 := fun _ => by kernel_rfl
  t4 := by kernel_rfl
  a4 := fun _ => by kernel_rfl
  z4 := fun _ => by kernel_rfl
  v4 := fun _ => by kernel_rfl
  t5 := by kernel_rfl
  a5 := fun _ => by kernel_rfl
  z5 := fun _ => by kernel_rfl
  v5 := fun _ => by kernel_rfl
  t9 := by kernel_rfl
  a9 := fun _ => by kernel_rfl
  z9 := fun _ => by kernel_rfl
  v9 := fun _ => by kernel_rfl
  t30 := by kernel_rfl
  a30 := fun _ => by kernel_rfl
  z30 := fun _ => by kernel_rfl
  v30 := fun _ => by kernel_rfl
  t42 := by kernel_rfl
  a42 := fun _ => by kernel_rfl
  z42 := fun _ => by kernel_rfl
  v42 := fun _ => by kernel_rfl
  t48 := by kernel_rfl
  a48 := fun _ => by kernel_rfl
  z48 := fun _ => by kernel_rfl
  v48 := fun _ => by kernel_rfl
  info5 := by kernel_rfl }
def layF_ren : Go.Shelf.Ren := ⟨fun | 229 => 37 | n => n, fun | 31 => 65 | 40 => 63 | 152 => 72 | 154 => 74 | n => n, fun n => n⟩
theorem layF : Lays.n229 Try.prog layF_ren := {
  mixed := by kernel_rfl
  f229 := by kernel_rfl
  t0 := by kernel_rfl
  a0 := fun _ => by kernel_rfl
  z0 := fun _ => by kernel_rfl
  v0 := fun _ => by kernel_rfl
  t3 := by kernel_rfl
  a3 := fun _ => by kernel_rfl
  z3 := fun _ => by kernel_rfl
  v3 := fun _ => by kernel_rfl
  t4 := by kernel_rfl
  a4 := fun _ => by kernel_rfl
  z4 := fun _ => by kernel_rfl
  v4 := fun _ => by kernel_rfl
  t9 := by kernel_rfl
  a9 := fun _ => by kernel_rfl
  z9 := fun _ => by kernel_rfl
  v9 := fun _ => by kernel_rfl
  t21 := by kernel_rfl
  a21 := fun _ => by kernel_rfl
  z21 := fun _ => by kernel_rfl
  v21 := fun _ => by kernel_rfl
  t31 := by kernel_rfl
  a31 := fun _ => by kernel_rfl
  z31 := fun _ => by kernel_rfl
  v31 := fun _ => by kernel_rfl
  t40 := by kernel_rfl
  a40 := fun _ => by kernel_rfl
  z40 := fun _ => by kernel_rfl
  v40 := fun _ => by kernel_rfl
  t152 := by kernel_rfl
  a152 := fun _ => by kernel_rfl
  z152 := fun _ => by kernel_rfl
  v152 := fun _ => by kernel_rfl
  t154 := by kernel_rfl
  a154 := fun _ => by kernel_rfl
  z154 := fun _ => by kernel_rfl
  v154 := fun _ => by kernel_rfl }

def seps (x : Nat) : Bool := x == 47 || x == 92
def dots : ByteArray := ⟨#[46, 46]⟩
def rlen (s : ByteArray) : Nat → Nat
  | 0 => 0
  | n + 1 => if bt s n = 47 then rlen s n else n + 1
def cutL (s : ByteArray) : ByteArray := s.extract (lead s s.size 0) s.size
def cutR (s : ByteArray) : ByteArray := s.extract 0 (rlen s s.size)
def cleanB (s : ByteArray) : ByteArray := ⟨(Pa.cleanEls s.data.toList).toArray⟩
def cl (s : ByteArray) : ByteArray := if (cutR (cutL (cleanB s))).toList = ([46] : List UInt8) then ⟨#[]⟩ else cutR (cutL (cleanB s))
def impl_PathClean.f (s : ByteArray) : Option (ByteArray × Bool) :=
  if s.size ≤ 100000 then some (if (Lib.goFieldsP seps s).any (fun x => dots.toList == x.toList) then (⟨#[]⟩, false) else (cl s, true)) else none

theorem rlen_le (s : ByteArray) : ∀ n, rlen s n ≤ n
  | 0 => Nat.le_refl _
  | n + 1 => by
    unfold rlen
    split
    · have := rlen_le s n; omega
    · exact Nat.le_refl _

theorem trimRight_is (s : ByteArray) (hs : s.size ≤ 9223372036854775807) : ∀ (n K : Nat), n ≤ s.size → 3 * n + 5 ≤ K → sanitize_zzTrimRight.l0 K s slashB n = some (s.extract 0 (rlen s n))
  | 0, K, _, hK => by
    obtain ⟨K, rfl⟩ : ∃ q, K = q + 1 := ⟨K - 1, by omega⟩
    simp only [sanitize_zzTrimRight.l0]
    rw [if_neg (by omega), if_pos (by omega), if_pos (by omega)]
    rfl
  | n + 1, K, hn, hK => by
    obtain ⟨K, rfl⟩ : ∃ q, K = q + 3 := ⟨K - 3, by omega⟩
    have hw : wrap64 (((n + 1 : Nat) : Int) - 1) = (n : Int) := by rw [wrap64_id (by omega) (by omega)]; omega
    have ih := trimRight_is s hs n K (by omega) (by omega)
    have h47 : bt slashB 0 = 47 := by decide
    have hq : ¬ (wrap64 (0 + 1) < (slashB.size : Int)) := by rw [wrap64_id (by omega) (by omega)]; decide
    simp only [sanitize_zzTrimRight.l0, sanitize_zzTrimRight.l1]
    rw [if_pos (by omega), if_pos (by decide), if_pos (by decide), hw, if_pos (by omega), if_pos (by omega), h47]
    by_cases h : bt s n = 47
    · rw [h, if_pos rfl, if_neg hq, rlen, if_pos h]
      simp only [if_true]
      exact ih
    · rw [if_neg (fun e => h e.symm), if_neg hq, rlen, if_neg h]
      simp only [Bool.false_eq_true, if_false]
      rw [if_pos (by omega), if_pos (by omega)]
      rfl

theorem idx_is (l : List ByteArray) (x : ByteArray) (hl : l.length ≤ 9223372036854775807) : ∀ (m i K : Nat), i + m = l.length → m < K →
    ∃ r, slices_Index_string_string.l0 K l x l.length i = some r ∧ (decide (r ≥ 0) = (l.drop i).any (fun y => x.toList == y.toList))
  | 0, i, K, h, hK => by
    obtain ⟨K, rfl⟩ : ∃ q, K = q + 1 := ⟨K - 1, by omega⟩
    refine ⟨-1, ?_, ?_⟩
    · simp only [slices_Index_string_string.l0]
      rw [if_neg (by omega)]
    · rw [List.drop_eq_nil_of_le (by omega)]; rfl
  | m + 1, i, K, h, hK => by
    obtain ⟨K, rfl⟩ : ∃ q, K = q + 1 := ⟨K - 1, by omega⟩
    have hi : i < l.length := by omega
    have hw : wrap64 ((i : Int) + 1) = ((i + 1 : Nat) : Int) := by rw [wrap64_id (by omega) (by omega)]; omega
    have hr : rdOf ByteArray.empty l (i : Int) = l[i] := by simp [rdOf, hi]
    rw [List.drop_eq_getElem_cons hi, List.any_cons]
    by_cases e : x.toList = l[i].toList
    · refine ⟨i, ?_, ?_⟩
      · simp only [slices_Index_string_string.l0]
        rw [if_pos (by omega), if_pos (by omega), if_pos (by omega), hr, if_pos e]
      · rw [beq_iff_eq.2 e]
        simp
    · obtain ⟨r, h1, h2⟩ := idx_is l x hl m (i + 1) K (by omega) (by omega)
      refine ⟨r, ?_, ?_⟩
      · simp only [slices_Index_string_string.l0]
        rw [if_pos (by omega), if_pos (by omega), if_pos (by omega), hr, if_neg e, hw, h1]
      · rw [h2, beq_eq_false_iff_ne.2 e, Bool.false_or]

theorem contains_is (l : List ByteArray) (x : ByteArray) (hl : l.length ≤ 9223372036854775807) : slices_Contains_string_string.f (l.length + 1) l x = some (l.any (fun y => x.toList == y.toList)) := by
  obtain ⟨r, h1, h2⟩ := idx_is l x hl l.length 0 (l.length + 1) (by omega) (by omega)
  unfold slices_Contains_string_string.f slices_Index_string_string.f
  rw [show ((0 : Nat) : Int) = 0 from rfl] at h1
  rw [h1, Option.bind_some, h2, List.drop_zero]

theorem readsC {w : World} {base n e A c : Nat} {xs : List ByteArray} (h : w.ownsRow base e 1 (.slice (some ⟨A, 0, none⟩) n c) n (xs.map Value.string)) (hn : xs.length = n) : Kd.C Kd.string w (some ⟨A, 0, none⟩) xs.length xs ∧ xs.length ≤ c := by
  obtain ⟨A', c', e', h'⟩ := own_reads_row (R := Kd.string.K w) h (Kd.reps_scalar (enc := Value.string) xs) hn
  cases e'
  subst hn
  refine ⟨h', ?_⟩
  rcases h.2 with ⟨e1, _⟩ | ⟨g, cap, cur, e1, _, _, e2, _⟩
  · cases e1
  · cases e1; exact e2

set_option maxHeartbeats 400000 in
theorem sepsGives (x : Nat) (W : World) : FnGives Try.prog 35 #[] #[encR x] (.bool (seps x)) W := by
  unfold FnGives encR
  by_cases h1 : x = 47
  · have e1 : ((x : Int) == 47) = true := by simp [h1]
    have e2 : seps x = true := by simp [seps, h1]
    rw [e2]
    go_enter Try.func35, Try.ntmps35
    go_wp2
    all_goals go_ret
    all_goals exact ⟨rfl, 0, rfl⟩
  · have e1 : ((x : Int) == 47) = false := by simp; omega
    have e2 : seps x = ((x : Int) == 92) := by
      unfold seps
      rw [beq_eq_false_iff_ne.2 h1, Bool.false_or]
      by_cases h2 : x = 92
      · simp [h2]
      · rw [beq_eq_false_iff_ne.2 h2, beq_eq_false_iff_ne.2 (by omega)]
    rw [e2]
    go_enter Try.func35, Try.ntmps35
    go_wp2
    all_goals go_ret
    all_goals exact ⟨rfl, 0, rfl⟩

set_option maxHeartbeats 400000 in
theorem errNew (s : ByteArray) (w : World) : Calls Try.prog 38 #[.string s] w fun e w' => ∃ g, e = .returned (.iface 75 (.pointer (some ⟨g, 0, none⟩))) ∧ Below w.heap.size w w' := by
  go_enter Try.func38, Try.ntmps38
  go_wp2
  go_ret
  exact ⟨_, rfl, (Below.refl _ _).alloc (Nat.le_refl _) _⟩

set_option maxHeartbeats 400000 in
theorem trim (s : ByteArray) (w : World) (hs : s.size ≤ 9223372036854775807) :
    Calls Try.prog 39 #[.string s, .string slashB] w fun e w' => e = .returned (.string (cutR (cutL s))) ∧ Below w.heap.size w w' := by
  have c1 := trimLeft s w
  have hz : (cutL s).size ≤ s.size := by unfold cutL; rw [ByteArray.size_extract]; omega
  have h2 := trimRight_is (cutL s) (by omega) (cutL s).size (3 * (cutL s).size + 5) (Nat.le_refl _) (Nat.le_refl _)
  have c2 := fun w1 => sanitize_zzTrimRight.calls (3 * (cutL s).size + 5) (cutL s) slashB (cutR (cutL s)) w1 h2
  go_enter Try.func39, Try.ntmps39
  go_wp2_with (first | (go_at_call 47; refine c1.mono ?_; rintro e w1 ⟨rfl, hb1⟩) | (go_at_call 46; refine (c2 _).mono ?_; rintro e w2 ⟨rfl, hb2⟩))
  go_ret
  exact ⟨rfl, hb1.trans ((hb2.below).mono hb1.size)⟩
theorem cleanB_size (l : List UInt8) : (Pa.cleanEls l).length ≤ l.length + 1 := by
  rw [← Pa.clean_eq_cleanEls]
  exact Pa.clean_length_le_succ l

def spanRow (s : ByteArray) : List ByteArray := Lib.goFieldsP seps s

set_option maxHeartbeats 1000000 in
theorem sanBad (s : ByteArray) (w : World) (hs : s.size ≤ 100000) (hr : (Lib.goFieldsP seps s).any (fun x => dots.toList == x.toList) = true) :
    Calls Try.prog 29 #[.string s] w fun e w' => (∃ g, e = .returned (.tuple #[.string ⟨#[]⟩, .iface 75 (.pointer (some ⟨g, 0, none⟩))])) ∧ Below w.heap.size w w' := by
  obtain ⟨xs, hxs⟩ : ∃ xs, Lib.goFieldsP seps s = xs := ⟨_, rfl⟩
  have c1 := Any.strings_FieldsFunc layF 35 #[] (fun args w => by kernel_rfl) seps s w (by omega) (fun W x _ => sepsGives x W) (by kernel_rfl) (by kernel_rfl)
  rw [hxs] at c1 hr
  have c4 := errNew
  go_enter Try.func29, Try.ntmps29
  go_wp2_with (first
    | (go_at_call 37; go_must (refine c1.mono ?_; rintro e w1 ⟨A, rfl, hA, ho, hb1⟩))
    | (go_at_call 36; go_must (obtain ⟨hC, hc⟩ := readsC ho rfl; refine (slices_Contains_string_string.calls (xs.length + 1) (some ⟨A, 0, none⟩) _ xs dots true _ hC hc (by rw [contains_is xs dots hC.2.1, hr])).mono ?_; rintro e w2 ⟨rfl, hb2⟩))
    | (go_at_call 38; go_must (refine (c4 _ _).mono ?_; rintro e w3 ⟨g, rfl, hb3⟩)))
  go_ret2
  exact ⟨⟨g, rfl⟩, (hb1.trans ((hb2.below).mono hb1.size)).trans (hb3.mono (Nat.le_trans hb1.size hb2.below.size))⟩

set_option maxHeartbeats 1000000 in
theorem sanGood (s : ByteArray) (w : World) (hs : s.size ≤ 100000) (hr : (Lib.goFieldsP seps s).any (fun x => dots.toList == x.toList) = false) (u : ByteArray) (hu : Hid (cl s = u)) :
    Calls Try.prog 29 #[.string s] w fun e w' => e = .returned (.tuple #[.string u, .nilIface]) ∧ Below w.heap.size w w' := by
  obtain ⟨xs, hxs⟩ : ∃ xs, Lib.goFieldsP seps s = xs := ⟨_, rfl⟩
  have c1 := Any.strings_FieldsFunc layF 35 #[] (fun args w => by kernel_rfl) seps s w (by omega) (fun W x _ => sepsGives x W) (by kernel_rfl) (by kernel_rfl)
  rw [hxs] at c1 hr
  have c5 := fun w1 => Any.path_Clean_rules layC s w1 (by omega)
  have hcs : (cleanB s).size ≤ 9223372036854775807 := by
    have := cleanB_size s.data.toList
    have h1 : s.data.toList.length = s.size := by simp
    show (Pa.cleanEls s.data.toList).toArray.size ≤ _
    rw [List.size_toArray]
    omega
  have c6 := fun w1 => trim (cleanB s) w1 hcs
  have hcl : Hid ((if (cutR (cutL (cleanB s))).toList = ([46] : List UInt8) then ⟨#[]⟩ else cutR (cutL (cleanB s))) = u) := hu
  obtain ⟨t, ht⟩ : ∃ t, cutR (cutL (cleanB s)) = t := ⟨_, rfl⟩
  rw [ht] at c6 hcl
  go_enter Try.func29, Try.ntmps29
  go_wp2_with (first
    | (go_at_call 37; go_must (refine c1.mono ?_; rintro e w1 ⟨A, rfl, hA, ho, hb1⟩))
    | (go_at_call 36; go_must (obtain ⟨hC, hc⟩ := readsC ho rfl; refine (slices_Contains_string_string.calls (xs.length + 1) (some ⟨A, 0, none⟩) _ xs dots false _ hC hc (by rw [contains_is xs dots hC.2.1, hr])).mono ?_; rintro e w2 ⟨rfl, hb2⟩))
    | (go_at_call 40; go_must (refine (c5 _).mono ?_; rintro e w3 ⟨rfl, hb3⟩))
    | (go_at_call 39; go_must (refine (c6 _).mono ?_; rintro e w4 ⟨rfl, hb4⟩)))
  · have h0 : (t.toList == [46]) = true := by assumption
    have h : t.toList = [46] := beq_iff_eq.1 h0
    have h1 := hcl.out
    rw [if_pos h] at h1
    subst h1
    go_ret2
    exact ⟨rfl, ((hb1.trans ((hb2.below).mono hb1.size)).trans (hb3.mono (Nat.le_trans hb1.size hb2.below.size))).trans (hb4.mono (Nat.le_trans (Nat.le_trans hb1.size hb2.below.size) hb3.size))⟩
  · have h0 : (t.toList == [46]) = false := by assumption
    have h : ¬ t.toList = [46] := beq_eq_false_iff_ne.1 h0
    have h1 := hcl.out
    rw [if_neg h] at h1
    subst h1
    go_ret2
    exact ⟨rfl, ((hb1.trans ((hb2.below).mono hb1.size)).trans (hb3.mono (Nat.le_trans hb1.size hb2.below.size))).trans (hb4.mono (Nat.le_trans (Nat.le_trans hb1.size hb2.below.size) hb3.size))⟩

set_option maxHeartbeats 1000000 in
theorem impl_PathClean.calls (s : ByteArray) (r1 : ByteArray) (r2 : Bool) (w : World) (h : impl_PathClean.f s = some (r1, r2)) :
    Calls Try.prog 14 #[.string s] w fun e w' => e = .returned (.tuple #[.string r1, .bool r2]) ∧ Below w.heap.size w w' := by
  unfold impl_PathClean.f at h
  split at h
  · rename_i hs
    replace h := Option.some.inj h
    obtain ⟨b, hb⟩ : ∃ b, (Lib.goFieldsP seps s).any (fun x => dots.toList == x.toList) = b := ⟨_, rfl⟩
    rw [hb] at h
    cases b with
    | true =>
      simp only [if_true, Prod.mk.injEq] at h
      obtain ⟨rfl, rfl⟩ := h
      have c := sanBad s w hs hb
      go_enter Try.func14, Try.ntmps14
      go_wp2_with (go_at_call 29; go_must (refine c.mono ?_; rintro e w1 ⟨⟨g, rfl⟩, hb1⟩))
      go_region
      all_goals go_wp2
      all_goals go_ret2
      all_goals exact ⟨rfl, below_drewN' hb1 _⟩
    | false =>
      simp only [Bool.false_eq_true, if_false, Prod.mk.injEq] at h
      obtain ⟨rfl, rfl⟩ := h
      have c := sanGood s w hs hb _ (Lib.hid rfl)
      obtain ⟨u, hu⟩ : ∃ u, cl s = u := ⟨_, rfl⟩
      rw [hu] at c ⊢
      go_enter Try.func14, Try.ntmps14
      go_wp2_with (go_at_call 29; go_must (refine c.mono ?_; rintro e w1 ⟨rfl, hb1⟩))
      go_region
      all_goals go_wp2
      all_goals go_ret2
      all_goals exact ⟨rfl, below_drewN' hb1 _⟩
  · cases h
end Go.Proofs.Ytkdmdoflfaldiaa.Given
