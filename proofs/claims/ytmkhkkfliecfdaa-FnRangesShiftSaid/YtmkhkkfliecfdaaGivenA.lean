/- The contracts of Ranges.search and of inserted (a set into which a list of ranges was inserted), in the printer's form. -/
import Derived.Test.YtmkhkkfliecfdaaPTxk
import Derived.Test.YtmkhkkfliecfdaaIns
import Derived.Test.YtmkhkkfliecfdaaSetP
namespace Go.Proofs.Ytmkhkkfliecfdaa.Given
open Go.RowKit Go.Proofs.YtmkhkkfliecfdaaW.PrintWords Go.Proofs.Ytmkhkkfliecfdaa.PT
set_option linter.unusedVariables false
set_option linter.unusedSimpArgs false

def p48 (x : S48) : Int × Int := (x.f0, x.f1)
def s48 (p : Int × Int) : S48 := ⟨p.1, p.2⟩
def p24 (x : S24) : Int × Int := (x.f0, x.f1)
def s24 (p : Int × Int) : S24 := ⟨p.1, p.2⟩
theorem p_s48 (p : Int × Int) : p48 (s48 p) = p := rfl
theorem s_p48 (x : S48) : s48 (p48 x) = x := rfl
theorem p_s24 (p : Int × Int) : p24 (s24 p) = p := rfl
theorem s_p24 (x : S24) : s24 (p24 x) = x := rfl
theorem map_ps (L : List (Int × Int)) : (L.map s48).map p48 = L := by simp [Function.comp_def, p_s48]
theorem map_sp (L : List S48) : (L.map p48).map s48 = L := by simp [Function.comp_def, s_p48]

theorem reps_flat (w : World) (base : Nat) (ok : Nat → Prop) (L : List (Int × Int)) : Reps (k48.M w base ok) 2 (L.map s48) (flat L) := by
  refine ⟨by rw [flat_length, List.length_map], fun j p hp => ?_⟩
  have hj : j < L.length := by have := (List.getElem?_eq_some_iff.1 hp).1; simpa using this
  have e : p = s48 L[j] := by
    rw [List.getElem?_eq_getElem (by simpa using hj)] at hp
    simpa using hp.symm
  subst e
  have e2 : ((flat L).drop (j * 2)).take 2 = [.int .i64 L[j].1, .int .i64 L[j].2] := by
    rw [← flat_drop, List.drop_eq_getElem_cons hj, flat_cons]; rfl
  rw [e2]
  exact k48_mkM w base ok (s48 L[j])
/-- A row of ranges of the call's own is one in the printer's form. -/
theorem row_R {w : World} {B : Nat} {v : Value} {L : List (Int × Int)} (h : Row w B v L) : Kd.R k48 48 w B (fun _ => True) v (L.map s48) :=
  ⟨fun _ _ => trivial, flat L, by rw [List.length_map]; exact h, reps_flat _ _ _ _⟩
/-- And back. -/
theorem R_row {w : World} {B : Nat} {ok : Nat → Prop} {v : Value} {l : List S48} (h : Kd.R k48 48 w B ok v l) : Row w B v (l.map p48) := by
  obtain ⟨_, inner, ho, hr⟩ := h
  have e : inner = flat (l.map p48) := by
    apply List.ext_getElem?
    intro i
    obtain ⟨h1, h2⟩ := hr
    have h1' : inner.length = l.length * 2 := h1
    by_cases hi : i < inner.length
    · have hj : i / 2 < l.length := by omega
      have hM := h2 (i / 2) l[i / 2] (List.getElem?_eq_getElem hj)
      have hc := k48_openM hM
      have hg : inner[i]? = ((inner.drop (i / 2 * 2)).take 2)[i % 2]? := by
        rw [List.getElem?_take, if_pos (by omega), List.getElem?_drop]
        congr 1; omega
      rw [hg]
      have hc' : (inner.drop (i / 2 * 2)).take 2 = [.int .i64 l[i / 2].f0, .int .i64 l[i / 2].f1] := hc
      rw [hc']
      have hjm : i / 2 < (l.map p48).length := by simpa using hj
      rcases Nat.mod_two_eq_zero_or_one i with e | e
      · rw [e]
        have := flat_fst (l.map p48) (i / 2) hjm
        rw [show i / 2 * 2 = i by omega] at this
        rw [this]; simp [p48]
      · rw [e]
        have := flat_snd (l.map p48) (i / 2) hjm
        rw [show i / 2 * 2 + 1 = i by omega] at this
        rw [this]; simp [p48]
    · rw [List.getElem?_eq_none (by omega), List.getElem?_eq_none (by rw [flat_length, List.length_map]; omega)]
  unfold Row
  rw [List.length_map, ← e]
  exact ho
theorem C_cells {w : World} {A : Option Addr} {n : Nat} {l : List S48} (h : Kd.C k48 w A n l) : ∀ i, i < (l.map p48).length → ∃ a, A = some a ∧ w.cell? (a.add (i * 2)) = some (.int .i64 (at_ (l.map p48) i).1) := by
  intro i hi
  have hi' : i < l.length := by simpa using hi
  obtain ⟨ad, e, h1, _⟩ := at_T48 h (i : Int) (by omega) (by have := h.1; omega)
  refine ⟨ad, e, ?_⟩
  rw [Int.toNat_natCast] at h1
  rw [h1, at_eq hi]
  simp [rd_T48, hi', p48]

theorem abv_low : ∀ {L : List (Int × Int)} {p : Int}, Abv p L → ∀ j, j < L.length → p < (at_ L j).1
  | [], _, _, j, h => by simp at h
  | x :: L, p, ⟨h1, h2, h3⟩, j, hj => by
    cases j with
    | zero => exact h1
    | succ j =>
      have := abv_low h3 j (by simpa using hj)
      show p < (at_ L j).1
      omega
/-! search -/
def rises : List S48 → Bool
  | [] => true
  | x :: l => l.all (fun y => decide (x.f0 ≤ y.f0)) && rises l
theorem rises_law : ∀ {l : List S48}, rises l = true → ∀ i j, i ≤ j → j < (l.map p48).length → (at_ (l.map p48) i).1 ≤ (at_ (l.map p48) j).1
  | [], _, i, j, _, h => by simp at h
  | x :: l, hr, i, j, hij, hj => by
    unfold rises at hr
    rw [Bool.and_eq_true] at hr
    cases j with
    | zero => obtain rfl : i = 0 := by omega
              exact Int.le_refl _
    | succ j =>
      have hjl : j < l.length := by simpa using hj
      cases i with
      | zero =>
        show x.f0 ≤ (at_ (l.map p48) j).1
        rw [at_eq (by simpa using hjl)]
        have := List.all_eq_true.1 hr.1 l[j] (List.getElem_mem hjl)
        simpa [p48] using this
      | succ i => exact rises_law hr.2 i j (by omega) (by simpa using hj)
theorem rises_of {L : List (Int × Int)} {q : Int} (h : Abv q L) : rises (L.map s48) = true := by
  induction L generalizing q with
  | nil => rfl
  | cons x L ih =>
    obtain ⟨h1, h2, h3⟩ := h
    simp only [List.map_cons, rises, Bool.and_eq_true]
    refine ⟨List.all_eq_true.2 fun y hy => ?_, ih h3⟩
    obtain ⟨z, hz, rfl⟩ := List.mem_map.1 hy
    obtain ⟨i, hi, rfl⟩ := List.getElem_of_mem hz
    have := abv_low h3 i hi
    rw [at_eq hi] at this
    exact decide_eq_true (by show x.1 ≤ (L[i]).1; omega)
def ranges_search.f (l0 : List S48) (a1_0 : Int) (a1_1 : Int) : Option Int := if rises l0 ∧ l0.length ≤ 100000 then some (srch (l0.map p48) a1_0 : Nat) else none
theorem ranges_search.calls (A0 : Option Addr) (c0 : Nat) (l0 : List S48) (a1_0 : Int) (a1_1 : Int) (r : Int) (w : World) (hr0 : Kd.C k48 w A0 l0.length l0) (hc0 : l0.length ≤ c0) (h : ranges_search.f l0 a1_0 a1_1 = some r) :
    Calls Try.prog 51 #[.slice A0 l0.length c0, .agg #[.int .i64 a1_0, .int .i64 a1_1]] w fun e w' => e = .returned (.int .i64 r) ∧ Below w.heap.size w w' := by
  unfold ranges_search.f at h
  split at h
  · rename_i hc
    obtain rfl := Option.some.inj h
    have e : l0.length = (l0.map p48).length := by simp
    rw [e]
    exact search_any A0 c0 (l0.map p48) a1_0 a1_1 w (by simp; omega) (C_cells hr0) (rises_law hc.1)
  · cases h

/-! inserted -/
def fits (x : S24) : Bool := decide (x.f1 ≤ 0 ∨ (-4398046511104 ≤ x.f0 ∧ x.f0 ≤ 4398046511104 ∧ 1 ≤ x.f1 ∧ x.f0 + x.f1 ≤ 8796093022208))
theorem fits_ok {x : S24} (h : fits x = true) : okIn (p24 x) := by
  have := of_decide_eq_true (p := x.f1 ≤ 0 ∨ (-4398046511104 ≤ x.f0 ∧ x.f0 ≤ 4398046511104 ∧ 1 ≤ x.f1 ∧ x.f0 + x.f1 ≤ 8796093022208)) h
  exact this
def impl_inserted.f (l0 : List S24) : Option (List S48) := if l0.all fits ∧ l0.length ≤ 90000 then some ((setP (l0.map p24)).map s48) else none
theorem at24 {w : World} {A : Option Addr} {n : Nat} {l : List S24} (h : Kd.C k24 w A n l) (k : Nat) (hk : k < l.length) :
    ∃ ad, A = some ad ∧ w.cell? (ad.add (k * 2)) = some (.int .i64 (l[k]).f0) ∧ w.cell? ⟨(ad.add (k * 2)).block, (ad.add (k * 2)).off + 1, none⟩ = some (.int .i64 (l[k]).f1) := by
  obtain ⟨ad, e, h1, h2⟩ := at_T24 h (k : Int) (by omega) (by have := h.1; omega)
  rw [Int.toNat_natCast] at h1 h2
  have er : rd_T24 l (k : Int) = l[k] := by simp [rd_T24, hk]
  rw [er] at h1 h2
  exact ⟨ad, e, h1, h2⟩
theorem given_any (a b : Int) (w : World) :
    Calls Try.prog 34 #[.agg #[.int .i64 a, .int .i64 b]] w fun e w' => e = .returned (.agg #[.int .i64 a, .int .i64 b]) ∧ Below w.heap.size w w' := by
  go_enter Try.func34, Try.ntmps34
  go_wp2
  refine bodyPost_ret (v := .agg #[.int .i64 a, .int .i64 b]) (by simp [results, Try.results34, go_sem]) rfl ⟨rfl, ?_⟩
  exact ((Below.refl _ _).alloc (Nat.le_refl _) _).alloc (by simp) _
set_option maxRecDepth 100000 in
set_option maxHeartbeats 1000000 in
theorem inserted_any (A0 : Option Addr) (c0 : Nat) (l : List S24) (w : World) (hr0 : Kd.C k24 w A0 l.length l) (hok : ∀ r ∈ l.map p24, okIn r) (hlen : l.length ≤ 90000) :
    Calls Try.prog 32 #[.slice A0 l.length c0] w fun e w' => ∃ v, e = .returned v ∧ Row w' w.heap.size v (setP (l.map p24)) ∧ Below w.heap.size w w' := by
  have HR0 := Lib.hid hr0
  have HOK := Lib.hid hok
  clear hr0 hok
  go_enter Try.func32, Try.ntmps32
  go_wp2
  go_loopg [8] l.length (fun m v8 wr => ∃ (k : Nat), m + k = l.length ∧ v8 = .int .i64 k ∧ Hid (Var w.heap.size w.heap.size w wr (setP ((l.map p24).take k))))
  case atStart =>
    refine ⟨0, by omega, rfl, Lib.hid ⟨.slice none 0 0, ?_, ?_, ?_⟩⟩
    · simpa using heap_alloc_new w (.cells #[.slice none 0 0] 51)
    · exact World.ownsRow_nil _ _ _ _
    · exact (Below.refl _ _).alloc (Nat.le_refl _) _
  case round =>
    obtain ⟨k, hm, rfl, hv⟩ := hrel
    by_cases hlt : k < l.length
    · obtain ⟨ad, rfl, x0, x1⟩ := at24 HR0.out k hlt
      have hb0 := World.block_lt_of_cell? _ _ x0
      have hb1 := World.block_lt_of_cell? _ _ x1
      obtain ⟨vv, hvv, -, hbel⟩ := hv.out
      have y0 := (hbel.cell hb0).trans x0
      have y1 := (hbel.cell hb1).trans x1
      have hz := hbel.size
      have hpz := (Array.getElem?_eq_some_iff.1 hvv).1
      clear x0 x1 hvv hbel
      have hxk : (l.map p24)[k]'(by simpa using hlt) = ((l[k]).f0, (l[k]).f1) := by simp [p24]
      have hokk := HOK.out _ (List.getElem_mem (h := (by simpa using hlt : k < (l.map p24).length)))
      rw [hxk] at hokk
      have hst := setP_take (l.map p24) k (by simpa using hlt)
      rw [hxk] at hst
      obtain ⟨hA, hG, hln⟩ := setP_take_law (l.map p24) HOK.out k
      generalize (l[k]).f0 = r1 at *
      generalize (l[k]).f1 = r2 at *
      have HST := Lib.hid hst
      have HA := Lib.hid hA
      have HG := Lib.hid hG
      have HO := Lib.hid hokk
      clear hst hA hG hokk hxk
      go_wp2_with (first | (go_at_call 34; refine (given_any r1 r2 _).mono ?_; rintro e w2 ⟨rfl, hb2⟩; have HV2 := Lib.hid ((hv.out.step (Nat.le_refl _) ((Below.refl _ _).alloc (Nat.le_refl _) _)).step (Nat.le_refl _) hb2); clear hb2) | (go_at_call 50; refine (ins_any (r := (r1, r2)) HV2.out (Nat.le_refl _) (by omega) HO.out HG.out (abv_sorted HA.out)).mono ?_; rintro e w3 ⟨rfl, hv3⟩; have HV3 := Lib.hid hv3; clear hv3))
      go_roundg (gk - 1)
      case measure => omega
      case rel => exact ⟨k + 1, by omega, by simp, Lib.hid (by rw [HST.out]; exact HV3.out)⟩
    · obtain rfl : k = l.length := by omega
      obtain ⟨v, hvv, hrow, hbel⟩ := hv.out
      obtain ⟨hc, hf⟩ := var_cell hvv
      have HR := Lib.hid hrow
      have HB := Lib.hid hbel
      clear hvv hrow hbel
      go_wp2_with fail
      go_ret
      refine ⟨_, rfl, ?_, HB.out⟩
      have := HR.out
      rwa [show (l.map p24).take l.length = l.map p24 by rw [List.take_of_length_le (by simp)]] at this
theorem impl_inserted.calls (A0 : Option Addr) (c0 : Nat) (l0 : List S24) (r : List S48) (w : World) (hr0 : Kd.C k24 w A0 l0.length l0) (hc0 : l0.length ≤ c0) (h : impl_inserted.f l0 = some r) :
    Calls Try.prog 32 #[.slice A0 l0.length c0] w fun e w' => ∃ v0_ : Value, e = .returned (v0_) ∧ Kd.R k48 48 w' w.heap.size (fun _ => True) v0_ r ∧ Below w.heap.size w w' := by
  unfold impl_inserted.f at h
  split at h
  · rename_i hc
    obtain rfl := Option.some.inj h
    refine (inserted_any A0 c0 l0 w hr0 (fun x hx => ?_) hc.2).mono ?_
    · obtain ⟨y, hy, rfl⟩ := List.mem_map.1 hx
      exact fits_ok (List.all_eq_true.1 hc.1 y hy)
    · rintro e w' ⟨v, rfl, hrow, hb⟩
      exact ⟨v, rfl, row_R hrow, hb⟩
  · cases h
end Go.Proofs.Ytmkhkkfliecfdaa.Given
