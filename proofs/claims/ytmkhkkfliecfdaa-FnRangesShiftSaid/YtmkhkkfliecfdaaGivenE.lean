/- The contract of Ranges.Intersection, for a row that rises and a range near enough; and of what the program asks of it. -/
import Derived.Test.YtmkhkkfliecfdaaGivenA
import Derived.Test.YtmkhkkfliecfdaaGivenB
import Derived.Test.YtmkhkkfliecfdaaCut
namespace Go.Proofs.Ytmkhkkfliecfdaa.Given
open Go.RowKit Go.Proofs.YtmkhkkfliecfdaaW.PrintWords Go.Proofs.Ytmkhkkfliecfdaa.PT
set_option linter.unusedVariables false
set_option linter.unusedSimpArgs false

/-- what the loop holds -/
def C48 (w wr : World) (r : Int × Int) (acc : List (Int × Int)) : Prop :=
  Bx wr w.heap.size r ∧ (∃ v, wr.heap[w.heap.size + 1]? = some (.cells #[v] 51 (0, 0)) ∧ Row wr (w.heap.size + 1) v acc) ∧ Below w.heap.size w wr
/-- and with the part that was found -/
def D48 (w : World) (b5 : Nat) (wr : World) (r c : Int × Int) (acc : List (Int × Int)) : Prop :=
  Bx wr w.heap.size r ∧ (∃ v, wr.heap[w.heap.size + 1]? = some (.cells #[v] 51 (0, 0)) ∧ Row wr (w.heap.size + 1) v acc ∧ v.ownBlock ≠ some b5) ∧ w.heap.size + 1 < b5 ∧ Bx wr b5 c ∧ Below w.heap.size w wr
section
variable {w wr wd : World} {b5 : Nat} {r c : Int × Int} {acc : List (Int × Int)}
theorem res48 {tmps : Array Value} {p : Nat} {v : Value} (h4 : tmps.getD 4 undef = .pointer (some ⟨p, 0, none⟩)) (hc : wr.cell? ⟨p, 0, none⟩ = some v) : (results Try.f48 tmps).run Try.prog wr = .ok v wr := by
  have h4' : tmps[4]?.getD undef = .pointer (some ⟨p, 0, none⟩) := by simpa using h4
  clear h4
  simp [results, Try.results48, go_sem, h4', hc]
theorem row_slice {v : Value} {B : Nat} (h : Row wr B v acc) : ∃ a n c, v = .slice a n c := by
  rcases h.2 with ⟨h', _⟩ | ⟨g', cap', cur, h', _⟩
  · exact ⟨_, _, _, h'⟩
  · exact ⟨_, _, _, h'⟩
theorem grown_cell (W : World) (b o : Nat) (v : Value) : W.grownBy (W.setCell ⟨b, o, none⟩ v) (some b) :=
  ⟨rfl, rfl, rfl, (KeepsWalks.setCell W _ v).size, fun k _ hk => Below.heap_setCell _ _ _ k (fun e => hk (by rw [e]))⟩
theorem Row.away {v : Value} {B b : Nat} (h : Row wr B v acc) (hne : v.ownBlock ≠ some b) (x y : Value) : Row ((wr.setCell ⟨b, 0, none⟩ x).setCell ⟨b, 1, none⟩ y) B v acc := by
  have h1 : Row (wr.setCell ⟨b, 0, none⟩ x) B v acc := World.ownsRow.kept h (row := some b) (grown_cell _ _ _ _) (.inr hne)
  exact World.ownsRow.kept h1 (row := some b) (grown_cell _ _ _ _) (.inr hne)
theorem cells_far {b p : Nat} (h : p ≠ b) (x y : Value) {o : Obj} (hp : wr.heap[p]? = some o) : ((wr.setCell ⟨b, 0, none⟩ x).setCell ⟨b, 1, none⟩ y).heap[p]? = some o := by
  rw [Below.heap_setCell _ _ _ p h, Below.heap_setCell _ _ _ p h]
  exact hp
theorem C48.step (h : C48 w wr r acc) (hb : Below wr.heap.size wr wd) : C48 w wd r acc := by
  obtain ⟨h1, ⟨v, h2, h3⟩, h4⟩ := h
  exact ⟨h1.step hb, ⟨v, by rw [hb.block _ (Array.getElem?_eq_some_iff.1 h2).1]; exact h2, h3.below hb⟩, h4.trans (hb.mono h4.size)⟩
theorem D48.step (h : D48 w b5 wr r c acc) (hb : Below wr.heap.size wr wd) : D48 w b5 wd r c acc := by
  obtain ⟨h1, ⟨v, h2, h3, h5⟩, h6, h7, h4⟩ := h
  exact ⟨h1.step hb, ⟨v, by rw [hb.block _ (Array.getElem?_eq_some_iff.1 h2).1]; exact h2, h3.below hb, h5⟩, h6, h7.step hb, h4.trans (hb.mono h4.size)⟩
theorem D48.toC (h : D48 w b5 wr r c acc) : C48 w wr r acc := by
  obtain ⟨h1, ⟨v, h2, h3, _⟩, _, _, h4⟩ := h
  exact ⟨h1, ⟨v, h2, h3⟩, h4⟩
theorem C48.var (h : C48 w wr r acc) : Var (w.heap.size + 1) (w.heap.size + 1) wr wr acc := by
  obtain ⟨h1, ⟨v, h2, h3⟩, h4⟩ := h
  exact ⟨v, h2, h3, Below.refl _ _⟩
theorem C48.after (h : C48 w wr r acc) {acc' : List (Int × Int)} (hv : Var (w.heap.size + 1) (w.heap.size + 1) wr wd acc') : C48 w wd r acc' := by
  obtain ⟨h1, _, h4⟩ := h
  obtain ⟨v, h2, h3, h5⟩ := hv
  refine ⟨?_, ⟨v, h2, h3⟩, h4.trans (h5.mono (by omega))⟩
  unfold Bx at h1 ⊢
  rw [h5.block _ (by omega)]; exact h1
theorem C48.new (h : C48 w wr r acc) : D48 w wr.heap.size (wr.alloc (.cells #[.int .i64 0, .int .i64 0] 48)) r (0, 0) acc := by
  have hst := (Below.refl wr.heap.size wr).alloc (Nat.le_refl _) (.cells #[.int .i64 0, .int .i64 0] 48)
  obtain ⟨h1, ⟨v, h2, h3⟩, h4⟩ := h
  have hp := (Array.getElem?_eq_some_iff.1 h2).1
  refine ⟨h1.step hst, ⟨v, by rw [hst.block _ hp]; exact h2, h3.below hst, fun e => ?_⟩, hp, bx_new wr 0 0, h4.trans (hst.mono h4.size)⟩
  have := (World.ownsRow.lt h3 _ e).2
  omega
theorem D48.put5 (h : D48 w b5 wr r c acc) (x y : Int) : D48 w b5 ((wr.setCell ⟨b5, 0, none⟩ (.int .i64 x)).setCell ⟨b5, 1, none⟩ (.int .i64 y)) r (x, y) acc := by
  obtain ⟨h1, ⟨v, h2, h3, h5⟩, h6, h7, h4⟩ := h
  refine ⟨(h1.far (p := ⟨b5, 0, none⟩) (by simp only; omega) _).far (p := ⟨b5, 1, none⟩) (by simp only; omega) _, ⟨v, ?_, ?_, h5⟩, h6, h7.put x y, (h4.setCell (by simp only; omega) _).setCell (by simp only; omega) _⟩
  · exact cells_far (by omega) _ _ h2
  · exact h3.away h5 _ _
theorem D48.put3 (h : D48 w b5 wr r c acc) (x y : Int) : D48 w b5 ((wr.setCell ⟨w.heap.size, 0, none⟩ (.int .i64 x)).setCell ⟨w.heap.size, 1, none⟩ (.int .i64 y)) (x, y) c acc := by
  obtain ⟨h1, ⟨v, h2, h3, h5⟩, h6, h7, h4⟩ := h
  refine ⟨h1.put x y, ⟨v, ?_, ?_, h5⟩, h6, (h7.far (p := ⟨w.heap.size, 0, none⟩) (by simp only; omega) _).far (p := ⟨w.heap.size, 1, none⟩) (by simp only; omega) _, (h4.setCell (by simp only; omega) _).setCell (by simp only; omega) _⟩
  · exact cells_far (by omega) _ _ h2
  · exact h3.away (fun e => by have := (World.ownsRow.lt h3 _ e).1; omega) _ _
end
set_option maxRecDepth 100000 in
set_option maxHeartbeats 1000000 in
theorem cut48_any (A0 : Option Addr) (c0 : Nat) (L : List (Int × Int)) (p s : Int) (w : World) (hn : L.length ≤ 90000) (hL : Abv (-4398046511105) L) (hG : ∀ x ∈ L, Good x) (hr : s ≤ 0 ∨ Good (p, s)) (hp : -4398046511104 ≤ p ∧ p ≤ 4398046511104)
    (hc : ∀ i, i < L.length → ∃ ad, A0 = some ad ∧ w.cell? (ad.add (i * 2)) = some (.int .i64 (at_ L i).1) ∧ w.cell? ⟨(ad.add (i * 2)).block, (ad.add (i * 2)).off + 1, none⟩ = some (.int .i64 (at_ L i).2)) :
    Calls Try.prog 48 #[.slice A0 L.length c0, .agg #[.int .i64 p, .int .i64 s]] w fun e w' => ∃ v, e = .returned v ∧ ((L = [] ∧ v = .slice A0 L.length c0) ∨ Row w' (w.heap.size + 1) v (cutS L (p, s))) ∧ Below w.heap.size w w' := by
  have HL := Lib.hid hL
  have HG := Lib.hid hG
  have HR := Lib.hid hr
  have HP := Lib.hid hp
  have HFD : Hid (∀ q t wz, Below w.heap.size w wz → Near (q, t) → ¬ t ≤ 0 → Calls Try.prog 33 #[.slice A0 L.length c0, .agg #[.int .i64 q, .int .i64 t]] wz (FindEnd wz (findP L (q, t)).1 (findP L (q, t)).2.1 (findP L (q, t)).2.2)) :=
    Lib.hid fun q t wz hz hq ht => find_any A0 c0 L q t wz (by omega) (abv_sorted hL) (fun x hx => (hG x hx).near) hq ht fun i hi => by
      obtain ⟨ad, e, h1, h2⟩ := hc i hi
      exact ⟨ad, e, (hz.cell (World.block_lt_of_cell? _ _ h1)).trans h1, (hz.cell (World.block_lt_of_cell? _ _ h2)).trans h2⟩
  clear hL hG hr hp hc
  by_cases hL0 : L.length = 0
  · have e0 : L = [] := List.length_eq_zero_iff.1 hL0
    have hd0 : decide ((L.length : Int) = 0) = true := decide_eq_true (by omega)
    have hd1 : ((L.length : Int) == 0) = true := by simp [hL0]
    go_enter Try.func48, Try.ntmps48
    go_wp2
    refine bodyPost_ret (res48 (p := w.heap.size + 1) (v := .slice A0 0 c0) rfl (by simp)) rfl ?_
    refine ⟨_, rfl, .inl (by first | rfl | exact ⟨e0, by rw [hL0]⟩), ?_⟩
    exact ((Below.refl w.heap.size w).alloc (Nat.le_refl _) _).alloc (by simp) _
  · have hd0 : decide ((L.length : Int) = 0) = false := decide_eq_false (by omega)
    have hd1 : ((L.length : Int) == 0) = false := beq_eq_false_iff_ne.mpr (by omega)
    go_enter Try.func48, Try.ntmps48
    go_wp2
    go_loopg [6] s.toNat (fun m v6 wr => ∃ (q t : Int) (acc : List (Int × Int)), m = t.toNat ∧ Hid (Left L p s q t acc) ∧ Hid (C48 w wr (q, t) acc))
    case atStart =>
      refine ⟨p, s, [], rfl, Lib.hid (Left.start HL.out), Lib.hid ⟨?_, ⟨.slice none 0 0, ?_, ?_⟩, ?_⟩⟩
      · exact (bx_new w p s).step ((Below.refl _ _).alloc (Nat.le_refl _) _)
      · simpa using heap_alloc_new (w.alloc (.cells #[.int .i64 p, .int .i64 s] 48)) (.cells #[.slice none 0 0] 51)
      · exact World.ownsRow_nil _ _ _ _
      · exact ((Below.refl _ _).alloc (Nat.le_refl _) _).alloc (by simp) _
    case round =>
      obtain ⟨q, t, acc, rfl, hl, hcc⟩ := hrel
      obtain ⟨x0, x1, -, -⟩ := hcc.out.1.all
      by_cases ht : t ≤ 0
      · have hd2 : decide (t ≤ 0) = true := decide_eq_true ht
        go_wp2_with (go_at_call 43; (refine (empty_any q t _).mono ?_; rintro e w1 ⟨rfl, hb1⟩; have HC1 := Lib.hid (hcc.out.step hb1); obtain ⟨v, hv1, hv2⟩ := HC1.out.2.1; obtain ⟨va, vn, vc, rfl⟩ := row_slice hv2; obtain ⟨z0, z1⟩ := var_cell hv1; have HV := Lib.hid hv2; have HN := Lib.hid (fun e => Boxed.not_row (t := 51) (e := 48) hv1 (by decide) hv2 e); clear hb1 hv1 hv2))
        rcases hl.out with ⟨_, rfl⟩ | ⟨h, _⟩
        · refine bodyPost_ret (res48 (p := w.heap.size + 1) (v := .slice va vn vc) rfl (World.cell?_setCell_same _ _ _ z0)) rfl ?_
          refine ⟨_, rfl, .inr ?_, ?_⟩
          · exact HV.out.far _ _ (fun e => HN.out e.symm)
          · exact HC1.out.2.2.setCell (by simp) _
        · omega
      · have hd2 : decide (t ≤ 0) = false := decide_eq_false ht
        have hgr : Good (p, s) := HR.out.resolve_left (by
          rcases hl.out with ⟨h, _⟩ | ⟨h1, h2, h3, _, _⟩ <;> omega)
        obtain ⟨k1, k2, k3, k4⟩ := hl.out.round HL.out HG.out hgr (by omega)
        obtain ⟨m1, m2, m3⟩ := hl.out.good HL.out HG.out HP.out
        have hf := fun wz hz => HFD.out q t wz hz k4 (by omega)
        generalize findP L (q, t) = X at *
        obtain ⟨⟨c1, c2⟩, ⟨n1, n2⟩, b⟩ := X
        simp only at k1 k2 k3 hf
        have K1 := Lib.hid k1
        have K3 := Lib.hid k3
        have HF := Lib.hid hf
        have M1 := Lib.hid m1
        have M3 := Lib.hid m3
        clear k1 k3 k4 hf m1 m3
        have hz0 := hcc.out.2.2.size
        cases b with
        | false =>
          go_wp2_with (first | (go_at_call 43; refine (empty_any q t _).mono ?_; rintro e w1 ⟨rfl, hb1⟩; have HC1 := Lib.hid (hcc.out.step hb1); obtain ⟨y0, y1, -, -⟩ := HC1.out.1.all; have hz1 := (Array.getElem?_eq_some_iff.1 HC1.out.1).1; clear hb1) | (go_at_call 33; (refine (HF.out _ HC1.out.new.2.2.2.2).mono ?_; rintro e w3 ⟨rfl, hb3⟩; have HD3 := Lib.hid (HC1.out.new.step hb3); obtain ⟨a1, a2, a3, a4⟩ := HD3.out.1.all; obtain ⟨a5, a6, a7, a8⟩ := HD3.out.2.2.2.1.all; have e1 := HD3.out.2.2.1; have e2 : ¬ w1.heap.size = w.heap.size := (by omega); have e3 : ¬ w.heap.size = w1.heap.size := (by omega); clear hb3)))
          go_roundg n2.toNat
          case measure => omega
          case rel => exact ⟨n1, n2, acc, rfl, K1, Lib.hid ((HD3.out.put5 c1 c2).put3 n1 n2).toC⟩
        | true =>
          go_wp2_with (first | (go_at_call 43; refine (empty_any q t _).mono ?_; rintro e w1 ⟨rfl, hb1⟩; have HC1 := Lib.hid (hcc.out.step hb1); obtain ⟨y0, y1, -, -⟩ := HC1.out.1.all; have hz1 := (Array.getElem?_eq_some_iff.1 HC1.out.1).1; clear hb1) | (go_at_call 33; (refine (HF.out _ HC1.out.new.2.2.2.2).mono ?_; rintro e w3 ⟨rfl, hb3⟩; have HD3 := Lib.hid (HC1.out.new.step hb3); obtain ⟨a1, a2, a3, a4⟩ := HD3.out.1.all; obtain ⟨a5, a6, a7, a8⟩ := HD3.out.2.2.2.1.all; have e1 := HD3.out.2.2.1; have e2 : ¬ w1.heap.size = w.heap.size := (by omega); have e3 : ¬ w.heap.size = w1.heap.size := (by omega); clear hb3)) | (go_at_call 50; (refine (ins_any (r := (c1, c2)) ((HD3.out.put5 c1 c2).put3 n1 n2).toC.var (Nat.le_refl _) (by omega) (.inr (K3.out (by first | trivial | rfl))) M1.out (abv_sorted M3.out)).mono ?_; rintro e w4 ⟨rfl, hv4⟩; have HC4 := Lib.hid (((HD3.out.put5 c1 c2).put3 n1 n2).toC.after hv4); clear hv4)))
          go_roundg n2.toNat
          case measure => omega
          case rel => exact ⟨n1, n2, _, rfl, K1, HC4⟩

/-! nearly in the printer's form: what an empty set tells may be what came in -/
def abvB : Int → List S48 → Bool
  | _, [] => true
  | p, x :: xs => decide (p < x.f0) && decide (1 ≤ x.f1) && abvB (x.f0 + x.f1) xs
theorem abvB_law : ∀ {l : List S48} {p : Int}, abvB p l = true ↔ Abv p (l.map p48)
  | [], p => by simp [abvB, Abv]
  | x :: xs, p => by
    simp only [abvB, Bool.and_eq_true, decide_eq_true_eq, List.map_cons, Abv, p48]
    rw [abvB_law (l := xs), and_assoc]
def goodB (x : S48) : Bool := decide (-4398046511104 ≤ x.f0 ∧ x.f0 ≤ 4398046511104 ∧ 1 ≤ x.f1 ∧ x.f0 + x.f1 ≤ 8796093022208)
theorem goodB_law {x : S48} : goodB x = true ↔ Good (p48 x) := decide_eq_true_iff
def ranges_Intersection.f (l0 : List S48) (a1_0 : Int) (a1_1 : Int) : Option (List S48) :=
  if abvB (-4398046511105) l0 = true ∧ l0.all goodB = true ∧ l0.length ≤ 90000 ∧ (a1_1 ≤ 0 ∨ goodB ⟨a1_0, a1_1⟩ = true) ∧ -4398046511104 ≤ a1_0 ∧ a1_0 ≤ 4398046511104 then some ((cutS (l0.map p48) (a1_0, a1_1)).map s48) else none
theorem ranges_Intersection.calls (A0 : Option Addr) (c0 : Nat) (l0 : List S48) (a1_0 : Int) (a1_1 : Int) (r : List S48) (w : World) (hr0 : Kd.C k48 w A0 l0.length l0) (hc0 : l0.length ≤ c0) (h : ranges_Intersection.f l0 a1_0 a1_1 = some r) :
    Calls Try.prog 48 #[.slice A0 l0.length c0, .agg #[.int .i64 a1_0, .int .i64 a1_1]] w fun e w' => ∃ A c, e = .returned (.slice A r.length c) ∧ r.length ≤ c ∧ Kd.C k48 w' A r.length r ∧ Below w.heap.size w w' := by
  unfold ranges_Intersection.f at h
  split at h
  · rename_i hc
    obtain ⟨h1, h2, h3, h4, h5, h6⟩ := hc
    obtain rfl := Option.some.inj h
    have e : l0.length = (l0.map p48).length := by simp
    rw [e]
    refine (cut48_any A0 c0 (l0.map p48) a1_0 a1_1 w (by simpa using h3) (abvB_law.1 h1) (fun x hx => ?_) (h4.imp_right goodB_law.1) ⟨h5, h6⟩ (fun i hi => ?_)).mono ?_
    · obtain ⟨y, hy, rfl⟩ := List.mem_map.1 hx
      exact goodB_law.1 (List.all_eq_true.1 h2 y hy)
    · have hi' : i < l0.length := by simpa using hi
      obtain ⟨ad, e, c1, c2⟩ := at_T48 hr0 (i : Int) (by omega) (by omega)
      rw [Int.toNat_natCast] at c1 c2
      have er : rd_T48 l0 (i : Int) = l0[i] := by simp [rd_T48, hi']
      rw [er] at c1 c2
      refine ⟨ad, e, ?_, ?_⟩
      · rw [c1, at_eq hi]; simp [p48]
      · rw [c2, at_eq hi]; simp [p48]
    · rintro e w' ⟨v, rfl, hv, hb⟩
      rcases hv with ⟨h0, rfl⟩ | hrow
      · obtain rfl : l0 = [] := List.map_eq_nil_iff.1 h0
        have e0 : (cutS (([] : List S48).map p48) (a1_0, a1_1)).map s48 = [] := rfl
        rw [e0]
        refine ⟨A0, c0, rfl, Nat.zero_le _, ?_, hb⟩
        exact Kd.C_below hr0 hb
      · have hR := row_R hrow
        obtain ⟨A, c, rfl⟩ := Kd.R_slice hR
        have := Kd.R_reads' hR
        exact ⟨A, c, rfl, this.2.1, this.2.2, hb⟩
  · cases h
end Go.Proofs.Ytmkhkkfliecfdaa.Given
