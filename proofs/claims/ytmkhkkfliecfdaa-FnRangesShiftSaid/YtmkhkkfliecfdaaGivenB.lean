/- The contract of Ranges.Find, for a row that rises and ranges near enough. -/
import Derived.Test.YtmkhkkfliecfdaaPQx3
import Derived.Test.YtmkhkkfliecfdaaPTxk
namespace Go.Proofs.Ytmkhkkfliecfdaa.Given
open Go.RowKit Go.Proofs.YtmkhkkfliecfdaaW.PrintWords Go.Proofs.Ytmkhkkfliecfdaa.PT Go.Proofs.Ytmkhkkfliecfdaa.Mm
set_option linter.unusedVariables false
set_option linter.unusedSimpArgs false

theorem mx_eq (a b : Int) : mx a b = if a < b then b else a := rfl
theorem mn_eq (a b : Int) : mn a b = if b < a then b else a := rfl
theorem wrap64_in' {n : Int} (h : -9223372036854775808 ≤ n) (h' : n ≤ 9223372036854775807) : wrap64 n = n := IntWalk.wrap64_in n ⟨h, h'⟩
theorem inter_any (a b : Int × Int) (ha : Near a) (hb : Near b) (w : World) :
    Calls Try.prog 41 #[.agg #[.int .i64 a.1, .int .i64 a.2], .agg #[.int .i64 b.1, .int .i64 b.2]] w fun e w' => e = .returned (.agg #[.int .i64 (interP a b).1, .int .i64 (interP a b).2]) ∧ Below w.heap.size w w' := by
  refine PQ.ranges_Range_Intersection.calls 1 a.1 a.2 b.1 b.2 (interP a b).1 (interP a b).2 w ?_
  obtain ⟨a1, a2, a3, a4⟩ := ha
  obtain ⟨b1, b2, b3, b4⟩ := hb
  have ea : PQ.ranges_Range_End.f a.1 a.2 = some (a.1 + a.2) := by unfold PQ.ranges_Range_End.f; rw [wrap64_in' (by omega) (by omega)]
  have eb : PQ.ranges_Range_End.f b.1 b.2 = some (b.1 + b.2) := by unfold PQ.ranges_Range_End.f; rw [wrap64_in' (by omega) (by omega)]
  have ew : wrap64 (mn (a.1 + a.2) (b.1 + b.2) - mx a.1 b.1) = mn (a.1 + a.2) (b.1 + b.2) - mx a.1 b.1 := by
    rw [mn_eq, mx_eq]
    refine wrap64_in' ?_ ?_ <;> (split <;> split <;> omega)
  have hj : ∀ t : Bool, PQ.ranges_Range_Intersection.j0 1 t a.1 a.2 b.1 b.2 0 0 = if t = true then some (mx a.1 b.1, mn (a.1 + a.2) (b.1 + b.2) - mx a.1 b.1) else some (0, 0) := by
    intro t
    simp only [PQ.ranges_Range_Intersection.j0, ea, eb, Option.bind_some, ew]
  have hs : (some ((interP a b).1, (interP a b).2) : Option (Int × Int)) = some (interP a b) := rfl
  rw [hs]
  simp only [PQ.ranges_Range_Intersection.f, ea, eb, Option.bind_some, hj, interP, ← mx_eq, ← mn_eq, ge_iff_le]
  by_cases c1 : b.1 ≤ a.1 <;> by_cases c2 : a.1 < b.1 + b.2 <;> by_cases c3 : a.1 ≤ b.1 <;> by_cases c4 : b.1 < a.1 + a.2 <;> simp [c1, c2, c3, c4]
/-- What Find leaves. -/
def FindEnd (w : World) (c n : Int × Int) (b : Bool) (e : Ending) (w' : World) : Prop :=
  e = .returned (.tuple #[.agg #[.int .i64 c.1, .int .i64 c.2], .agg #[.int .i64 n.1, .int .i64 n.2], .bool b]) ∧ Below w.heap.size w w'
theorem Bx.all {w : World} {b : Nat} {r : Int × Int} (h : Bx w b r) : w.cell? ⟨b, 0, none⟩ = some (.int .i64 r.1) ∧ w.cell? ⟨b, 1, none⟩ = some (.int .i64 r.2) ∧ w.frozen? ⟨b, 0, none⟩ = false ∧ w.frozen? ⟨b, 1, none⟩ = false := by
  unfold Bx at h
  refine ⟨?_, ?_, ?_, ?_⟩ <;> simp [World.cell?, World.frozen?, h]
theorem Bx.far {w : World} {b : Nat} {r : Int × Int} (h : Bx w b r) {p : Addr} (hne : b ≠ p.block) (u : Value) : Bx (w.setCell p u) b r := by
  unfold Bx; rw [Below.heap_setCell _ _ _ _ hne]; exact h
theorem Bx.put {w : World} {b : Nat} {r : Int × Int} (h : Bx w b r) (x y : Int) : Bx ((w.setCell ⟨b, 0, none⟩ (.int .i64 x)).setCell ⟨b, 1, none⟩ (.int .i64 y)) b (x, y) :=
  blk_put (blk_put h 0 _ rfl) 1 _ rfl
/-- Find's variables: the range asked, curr, next, the range in common. -/
def FW (w : World) (b7 : Nat) (r : Int × Int) (wc : World) : Prop :=
  Bx wc w.heap.size r ∧ Bx wc (w.heap.size + 1) (0, 0) ∧ Bx wc (w.heap.size + 1 + 1) (0, 0) ∧ (∃ x, Bx wc b7 x) ∧ w.heap.size + 2 < b7 ∧ Below w.heap.size w wc
theorem FW.step {w : World} {b7 : Nat} {r : Int × Int} {wc wd : World} (h : FW w b7 r wc) (hb : Below wc.heap.size wc wd) : FW w b7 r wd := by
  obtain ⟨h1, h2, h3, ⟨x, h4⟩, h5, h6⟩ := h
  exact ⟨h1.step hb, h2.step hb, h3.step hb, ⟨x, h4.step hb⟩, h5, h6.trans (hb.mono h6.size)⟩
theorem FW.alloc {w : World} {b7 : Nat} {r : Int × Int} {wc : World} (h : FW w b7 r wc) (o : Obj) : FW w b7 r (wc.alloc o) := h.step ((Below.refl _ _).alloc (Nat.le_refl _) o)
/-- the range in common is stored -/
theorem FW.put {w : World} {b7 : Nat} {r : Int × Int} {wc : World} (h : FW w b7 r wc) (x y : Int) : FW w b7 r ((wc.setCell ⟨b7, 0, none⟩ (.int .i64 x)).setCell ⟨b7, 1, none⟩ (.int .i64 y)) := by
  obtain ⟨h1, h2, h3, ⟨z, h4⟩, h5, h6⟩ := h
  refine ⟨(h1.far ?_ _).far ?_ _, (h2.far ?_ _).far ?_ _, (h3.far ?_ _).far ?_ _, ⟨_, h4.put x y⟩, h5, (h6.setCell ?_ _).setCell ?_ _⟩ <;> simp only <;> omega
/-- Find's variables, with what they hold. -/
def F3 (w : World) (r c n : Int × Int) (wc : World) : Prop := Bx wc w.heap.size r ∧ Bx wc (w.heap.size + 1) c ∧ Bx wc (w.heap.size + 1 + 1) n ∧ Below w.heap.size w wc
section
variable {w wc : World} {r c n : Int × Int}
theorem FW.f3 {b7 : Nat} (h : FW w b7 r wc) : F3 w r (0, 0) (0, 0) wc := ⟨h.1, h.2.1, h.2.2.1, h.2.2.2.2.2⟩
theorem F3.step {wd : World} (h : F3 w r c n wc) (hb : Below wc.heap.size wc wd) : F3 w r c n wd := ⟨h.1.step hb, h.2.1.step hb, h.2.2.1.step hb, h.2.2.2.trans (hb.mono h.2.2.2.size)⟩
theorem F3.set0 (h : F3 w r c n wc) (x : Int) : F3 w (x, r.2) c n (wc.setCell ⟨w.heap.size, 0, none⟩ (.int .i64 x)) :=
  ⟨blk_put h.1 0 _ rfl, h.2.1.far (by simp) _, h.2.2.1.far (by simp; omega) _, h.2.2.2.setCell (by simp) _⟩
theorem F3.set1 (h : F3 w r c n wc) (x : Int) : F3 w (r.1, x) c n (wc.setCell ⟨w.heap.size, 1, none⟩ (.int .i64 x)) :=
  ⟨blk_put h.1 1 _ rfl, h.2.1.far (by simp) _, h.2.2.1.far (by simp; omega) _, h.2.2.2.setCell (by simp) _⟩
theorem F3.put4 (h : F3 w r c n wc) (x y : Int) : F3 w r (x, y) n ((wc.setCell ⟨w.heap.size + 1, 0, none⟩ (.int .i64 x)).setCell ⟨w.heap.size + 1, 1, none⟩ (.int .i64 y)) :=
  ⟨(h.1.far (by simp) _).far (by simp) _, h.2.1.put x y, (h.2.2.1.far (by simp) _).far (by simp) _, (h.2.2.2.setCell (by simp) _).setCell (by simp) _⟩
theorem F3.put5 (h : F3 w r c n wc) (x y : Int) : F3 w r c (x, y) ((wc.setCell ⟨w.heap.size + 1 + 1, 0, none⟩ (.int .i64 x)).setCell ⟨w.heap.size + 1 + 1, 1, none⟩ (.int .i64 y)) :=
  ⟨(h.1.far (by simp; omega) _).far (by simp; omega) _, (h.2.1.far (by simp) _).far (by simp) _, h.2.2.1.put x y, (h.2.2.2.setCell (by simp; omega) _).setCell (by simp; omega) _⟩
theorem F3.drew (h : F3 w r c n wc) : F3 w r c n wc.drew := ⟨h.1, h.2.1, h.2.2.1, h.2.2.2.drew⟩
theorem find_results {tmps : Array Value} {b4 b5 : Nat} {b : Bool} (h4 : tmps.getD 4 undef = .pointer (some ⟨b4, 0, none⟩)) (h5 : tmps.getD 5 undef = .pointer (some ⟨b5, 0, none⟩)) (h6 : tmps.getD 6 undef = .bool b) (hc : Bx wc b4 c) (hn : Bx wc b5 n) :
    (results Try.f33 tmps).run Try.prog wc = .ok (.tuple #[.agg #[.int .i64 c.1, .int .i64 c.2], .agg #[.int .i64 n.1, .int .i64 n.2], .bool b]) wc := by
  obtain ⟨c1, c2, -, -⟩ := hc.all
  obtain ⟨n1, n2, -, -⟩ := hn.all
  have h4' : tmps[4]?.getD undef = .pointer (some ⟨b4, 0, none⟩) := by simpa using h4
  have h5' : tmps[5]?.getD undef = .pointer (some ⟨b5, 0, none⟩) := by simpa using h5
  have h6' : tmps[6]?.getD undef = .bool b := by simpa using h6
  clear h4 h5 h6
  simp [results, Try.results33, go_sem, h4', h5', h6', c1, c2, n1, n2]
theorem F3.fin {b : Bool} {a : Act} (h : F3 w r c n wc) (hd : a.defers = []) (h4 : a.tmps.getD 4 undef = .pointer (some ⟨w.heap.size + 1, 0, none⟩)) (h5 : a.tmps.getD 5 undef = .pointer (some ⟨w.heap.size + 1 + 1, 0, none⟩)) (h6 : a.tmps.getD 6 undef = .bool b) :
    bodyPost Try.prog Try.f33 (FindEnd w c n b) .ret a wc :=
  bodyPost_ret (find_results h4 h5 h6 h.2.1 h.2.2.1) hd ⟨rfl, h.2.2.2⟩
end
theorem FW.facts {w : World} {b7 : Nat} {r : Int × Int} {wc : World} (h : FW w b7 r wc) :
    (wc.cell? ⟨w.heap.size, 0, none⟩ = some (.int .i64 r.1) ∧ wc.cell? ⟨w.heap.size, 1, none⟩ = some (.int .i64 r.2) ∧ wc.frozen? ⟨w.heap.size, 0, none⟩ = false ∧ wc.frozen? ⟨w.heap.size, 1, none⟩ = false) ∧
    (wc.cell? ⟨w.heap.size + 1, 0, none⟩ = some (.int .i64 0) ∧ wc.cell? ⟨w.heap.size + 1, 1, none⟩ = some (.int .i64 0) ∧ wc.frozen? ⟨w.heap.size + 1, 0, none⟩ = false ∧ wc.frozen? ⟨w.heap.size + 1, 1, none⟩ = false) ∧
    (wc.cell? ⟨w.heap.size + 1 + 1, 0, none⟩ = some (.int .i64 0) ∧ wc.cell? ⟨w.heap.size + 1 + 1, 1, none⟩ = some (.int .i64 0) ∧ wc.frozen? ⟨w.heap.size + 1 + 1, 0, none⟩ = false ∧ wc.frozen? ⟨w.heap.size + 1 + 1, 1, none⟩ = false) ∧
    (∃ x y, wc.cell? ⟨b7, 0, none⟩ = some (.int .i64 x) ∧ wc.cell? ⟨b7, 1, none⟩ = some (.int .i64 y) ∧ wc.frozen? ⟨b7, 0, none⟩ = false ∧ wc.frozen? ⟨b7, 1, none⟩ = false) ∧ b7 < wc.heap.size ∧ w.heap.size < wc.heap.size := by
  obtain ⟨h1, h2, h3, ⟨x, h4⟩, h5, h6⟩ := h
  exact ⟨h1.all, h2.all, h3.all, ⟨_, _, h4.all⟩, h4.lt, by have := h4.lt; omega⟩
theorem end_any2 (p s : Int) (w : World) (h1 : -9223372036854775808 ≤ p + s) (h2 : p + s ≤ 9223372036854775807) :
    Calls Try.prog 42 #[.agg #[.int .i64 p, .int .i64 s]] w fun e w' => e = .returned (.int .i64 (p + s)) ∧ Below w.heap.size w w' := by
  have hw : IntKind.i64.wrap (p + s) = p + s := i64_id ⟨h1, h2⟩
  go_enter Try.func42, Try.ntmps42
  go_wp2
  go_ret
  exact ⟨rfl, (Below.refl _ _).alloc (Nat.le_refl _) _⟩
theorem interP_near {a b : Int × Int} (ha : Near a) (hb : Near b) : -35184372088832 ≤ (interP a b).1 ∧ (interP a b).1 ≤ 35184372088832 ∧ -70368744177664 ≤ (interP a b).2 ∧ (interP a b).2 ≤ 70368744177664 := by
  obtain ⟨a1, a2, a3, a4⟩ := ha
  obtain ⟨b1, b2, b3, b4⟩ := hb
  unfold interP
  split
  · simp only
    refine ⟨?_, ?_, ?_, ?_⟩ <;> (repeat' split) <;> omega
  · simp only; omega
theorem interP_pos {a b : Int × Int} (ha : Near a) (hb : Near b) (h : ¬ (interP a b).2 ≤ 0) : Near (interP a b) := by
  obtain ⟨a1, a2, a3, a4⟩ := ha
  obtain ⟨b1, b2, b3, b4⟩ := hb
  unfold interP at h ⊢
  split
  · rename_i hc
    rw [if_pos hc] at h
    simp only at h
    refine ⟨?_, ?_, ?_, ?_⟩ <;> simp only <;> (repeat' split) <;> (repeat' split at h) <;> omega
  · rename_i hc
    rw [if_neg hc] at h
    simp only at h
    omega
theorem fw_start (w : World) (r1 r2 : Int) (w1 : World) (hb : Below (((w.alloc (.cells #[.int .i64 r1, .int .i64 r2] 48)).alloc (.cells #[.int .i64 0, .int .i64 0] 48)).alloc (.cells #[.int .i64 0, .int .i64 0] 48)).heap.size (((w.alloc (.cells #[.int .i64 r1, .int .i64 r2] 48)).alloc (.cells #[.int .i64 0, .int .i64 0] 48)).alloc (.cells #[.int .i64 0, .int .i64 0] 48)) w1) :
    FW w w1.heap.size (r1, r2) (w1.alloc (.cells #[.int .i64 0, .int .i64 0] 48)) := by
  have hz := hb.size
  simp only [World.size_alloc] at hz
  have b1 : Bx (w.alloc (.cells #[.int .i64 r1, .int .i64 r2] 48)) w.heap.size (r1, r2) := bx_new w r1 r2
  have b2 : Bx ((w.alloc (.cells #[.int .i64 r1, .int .i64 r2] 48)).alloc (.cells #[.int .i64 0, .int .i64 0] 48)) (w.heap.size + 1) (0, 0) := by
    have := bx_new (w.alloc (.cells #[.int .i64 r1, .int .i64 r2] 48)) 0 0; simpa using this
  have b3 : Bx (((w.alloc (.cells #[.int .i64 r1, .int .i64 r2] 48)).alloc (.cells #[.int .i64 0, .int .i64 0] 48)).alloc (.cells #[.int .i64 0, .int .i64 0] 48)) (w.heap.size + 1 + 1) (0, 0) := by
    have := bx_new ((w.alloc (.cells #[.int .i64 r1, .int .i64 r2] 48)).alloc (.cells #[.int .i64 0, .int .i64 0] 48)) 0 0; simpa using this
  have st : ∀ (W : World) (o : Obj), Below W.heap.size W (W.alloc o) := fun W o => (Below.refl _ _).alloc (Nat.le_refl _) o
  refine ⟨((((b1.step (st _ _)).step (st _ _)).step hb).step (st _ _)), (((b2.step (st _ _)).step hb).step (st _ _)), ((b3.step hb).step (st _ _)), ⟨(0, 0), bx_new w1 0 0⟩, by omega, ?_⟩
  exact ((((Below.refl w.heap.size w).alloc (Nat.le_refl _) _).alloc (by simp) _).alloc (by simp; omega) _ |>.trans (hb.mono (by simp; omega))).alloc (by omega) _
theorem fw_one (w : World) (r1 r2 : Int) (w1 : World) (hb : Below (((w.alloc (.cells #[.int .i64 r1, .int .i64 r2] 48)).alloc (.cells #[.int .i64 0, .int .i64 0] 48)).alloc (.cells #[.int .i64 0, .int .i64 0] 48)).heap.size (((w.alloc (.cells #[.int .i64 r1, .int .i64 r2] 48)).alloc (.cells #[.int .i64 0, .int .i64 0] 48)).alloc (.cells #[.int .i64 0, .int .i64 0] 48)) w1) :
    w1.cell? ⟨w.heap.size, 0, none⟩ = some (.int .i64 r1) ∧ w1.cell? ⟨w.heap.size, 1, none⟩ = some (.int .i64 r2) ∧ w.heap.size + 2 < w1.heap.size := by
  have hz := hb.size
  simp only [World.size_alloc] at hz
  have st : ∀ (W : World) (o : Obj), Below W.heap.size W (W.alloc o) := fun W o => (Below.refl _ _).alloc (Nat.le_refl _) o
  obtain ⟨h1, h2, -, -⟩ := ((((bx_new w r1 r2).step (st _ _)).step (st _ _)).step hb).all
  exact ⟨h1, h2, by omega⟩
set_option maxRecDepth 100000 in
set_option maxHeartbeats 1000000 in
theorem find_empty (v : Value) (r1 r2 : Int) (w : World) (h : r2 ≤ 0) :
    Calls Try.prog 33 #[v, .agg #[.int .i64 r1, .int .i64 r2]] w (FindEnd w (r1, r2) (0, 0) false) := by
  have hd : decide (r2 ≤ 0) = true := decide_eq_true h
  go_enter Try.func33, Try.ntmps33
  go_wp2_with (go_at_call 43; refine (empty_any r1 r2 _).mono ?_; rintro e w1 ⟨rfl, hb1⟩; obtain ⟨hc1, hf1⟩ := bcell hb1; have hz1 := hb1.size; have HB1 := Lib.hid hb1; clear hb1)
  go_region
  go_wp2
  refine bodyPost_ret (v := .tuple #[.agg #[.int .i64 r1, .int .i64 r2], .agg #[.int .i64 0, .int .i64 0], .bool false]) (by simp [results, Try.results33, go_sem, hc1, hz1]) rfl ⟨rfl, ?_⟩
  have hb := (((Below.refl w.heap.size w).alloc (Nat.le_refl _) (.cells #[.int .i64 r1, .int .i64 r2] 48)).alloc (by simp) (.cells #[.int .i64 0, .int .i64 0] 48)).alloc (by simp; omega) (.cells #[.int .i64 0, .int .i64 0] 48) |>.trans (HB1.out.mono (by simp; omega))
  exact ((((hb.setCell (by simp) _).setCell (by simp) _).setCell (by simp; omega) _).setCell (by simp; omega) _).drew
set_option maxRecDepth 100000 in
set_option maxHeartbeats 1000000 in
theorem find_any (A0 : Option Addr) (c0 : Nat) (L : List (Int × Int)) (r1 r2 : Int) (w : World) (hn : L.length ≤ 100000) (hs : ∀ i j, i ≤ j → j < L.length → (at_ L i).1 ≤ (at_ L j).1) (hN : ∀ x ∈ L, Near x) (hr : Near (r1, r2)) (h0 : ¬ r2 ≤ 0)
    (hc : ∀ i, i < L.length → ∃ ad, A0 = some ad ∧ w.cell? (ad.add (i * 2)) = some (.int .i64 (at_ L i).1) ∧ w.cell? ⟨(ad.add (i * 2)).block, (ad.add (i * 2)).off + 1, none⟩ = some (.int .i64 (at_ L i).2)) :
    Calls Try.prog 33 #[.slice A0 L.length c0, .agg #[.int .i64 r1, .int .i64 r2]] w (FindEnd w (findP L (r1, r2)).1 (findP L (r1, r2)).2.1 (findP L (r1, r2)).2.2) := by
  have hd : decide (r2 ≤ 0) = false := decide_eq_false h0
  have hsr : ∀ wz, Below w.heap.size w wz → Calls Try.prog 51 #[.slice A0 L.length c0, .agg #[.int .i64 r1, .int .i64 r2]] wz fun e w' => e = .returned (.int .i64 (srch L r1 : Nat)) ∧ Below wz.heap.size wz w' :=
    fun wz hz => search_any A0 c0 L r1 r2 wz (by omega) (fun i hi => by
      obtain ⟨ad, e, h1, -⟩ := hc i hi
      exact ⟨ad, e, (hz.cell (World.block_lt_of_cell? _ _ h1)).trans h1⟩) hs
  have hkl := srch_le L r1
  have hfp : findP L (r1, r2) = (let i := srch L r1; let p := interP (at_ L (i - 1)) (r1, r2); if 0 < i ∧ 0 < p.2 then (p, (p.1 + p.2, r2 - p.2), true) else if L.length ≤ i then ((r1, r2), (0, 0), false) else let q := interP (at_ L i) (r1, r2); if q.2 ≤ 0 then ((r1, r2), (0, 0), false) else if r1 < q.1 then ((r1, q.1 - r1), (q.1, r2 - (q.1 - r1)), false) else (q, (q.1 + q.2, r2 - q.2), true)) := by
    unfold findP; rw [if_neg (by exact h0)]
  obtain ⟨X, hX⟩ : ∃ X, X = findP L (r1, r2) := ⟨_, rfl⟩
  rw [← hX]
  rw [hfp] at hX
  simp only at hX
  clear hfp
  generalize srch L r1 = k at *
  obtain ⟨ki, hki⟩ : ∃ ki : Int, ki = (k : Nat) := ⟨_, rfl⟩
  have k0 : 0 ≤ ki := by omega
  have tk : ki.toNat = k := by omega
  rw [← hki] at hsr
  have HSR := Lib.hid hsr
  have HK := Lib.hid hki
  have HC := Lib.hid hc
  have HN := Lib.hid hN
  have HR := Lib.hid hr
  have HX := Lib.hid hX
  clear hsr hki hc hN hr hs hX h0
  go_enter Try.func33, Try.ntmps33
  go_upto_if 19 with (first | (go_at_call 43; refine (empty_any r1 r2 _).mono ?_; rintro e w1 ⟨rfl, hb1⟩; have HF1 := Lib.hid (fw_start w r1 r2 w1 hb1); obtain ⟨y0, y1, hz1⟩ := fw_one w r1 r2 w1 hb1; have hz0 : w.heap.size < w1.heap.size := (by omega); clear hb1) | (go_at_call 51; refine (HSR.out _ HF1.out.2.2.2.2.2).mono ?_; rintro e w2 ⟨rfl, hb2⟩; have HF2 := Lib.hid (HF1.out.step hb2); clear hb2))
  clear y0 y1 hz0 hz1 HF1
  generalize w1.heap.size = b7 at *
  have hb7 := HF2.out.2.2.2.2.1
  have e1 : ¬ b7 = w.heap.size := by omega
  have e2 : ¬ w.heap.size = b7 := by omega
  have e3 : ¬ b7 = w.heap.size + 1 := by omega
  have e4 : ¬ w.heap.size + 1 = b7 := by omega
  have e5 : ¬ b7 = w.heap.size + 1 + 1 := by omega
  have e6 : ¬ w.heap.size + 1 + 1 = b7 := by omega
  go_cut [20] (fun v20 wc => Hid (FW w b7 (r1, r2) wc) ∧ Hid (¬ (0 < k ∧ 0 < (interP (at_ L (k - 1)) (r1, r2)).2)))
  case first =>
    by_cases hk : 0 < ki
    · have hdk : decide (0 < ki) = true := decide_eq_true hk
      obtain ⟨kj, hkj⟩ : ∃ kj : Int, kj = ki - 1 := ⟨_, rfl⟩
      have hwj : IntKind.i64.wrap (ki - 1) = kj := by rw [i64_id (by omega), hkj]
      have j0 : 0 ≤ kj := by omega
      have j1 : kj < L.length := by omega
      have tj : kj.toNat = k - 1 := by omega
      have hkL : k - 1 < L.length := by omega
      obtain ⟨ad, rfl, x0, x1⟩ := HC.out (k - 1) hkL
      have hnp : Near (at_ L (k - 1)) := by rw [at_eq hkL]; exact HN.out _ (List.getElem_mem _)
      have hin := inter_any (at_ L (k - 1)) (r1, r2) hnp HR.out
      have hnear := interP_near hnp HR.out
      have hpos := interP_pos hnp HR.out
      have HK0 := Lib.hid (show 0 < k by omega)
      generalize interP (at_ L (k - 1)) (r1, r2) = q at *
      obtain ⟨q1, q2⟩ := q
      generalize at_ L (k - 1) = pp at *
      obtain ⟨p1, p2⟩ := pp
      simp only at hin hnear x0 x1
      have HIN := Lib.hid hin
      have HPOS := Lib.hid hpos
      have HKJ := Lib.hid hkj
      have x0' := (HF2.out.2.2.2.2.2.cell (World.block_lt_of_cell? _ _ x0)).trans x0
      have x1' := (HF2.out.2.2.2.2.2.cell (World.block_lt_of_cell? _ _ x1)).trans x1
      have hbl := World.block_lt_of_cell? _ _ x0'
      have hbl1 := World.block_lt_of_cell? _ _ x1'
      clear hin hpos hkj x0 x1 hnp
      obtain ⟨⟨f1, f2, f3, f4⟩, -, -, ⟨xx, yy, f5, f6, f7, f8⟩, f9, f10⟩ := HF2.out.facts
      by_cases hq : q2 ≤ 0
      · have hdq : decide (q2 ≤ 0) = true := decide_eq_true hq
        have HQ := Lib.hid hq
        clear hq
        go_wp2_with (first | (go_at_call 41; refine (HIN.out _).mono ?_; rintro e w3 ⟨rfl, hb3⟩; have HF3 := Lib.hid ((HF2.out.alloc _).step hb3); obtain ⟨-, -, -, ⟨xz, yz, g5, g6, g7, g8⟩, g9, g10⟩ := HF3.out.facts; clear hb3) | (go_at_call 43; refine (empty_any q1 q2 _).mono ?_; rintro e w4 ⟨rfl, hb4⟩; have HF4 := Lib.hid ((HF3.out.put q1 q2).step hb4); clear hb4))
        go_simp
        go_meet
        exact ⟨HF4, Lib.hid (fun h => by have h1 := HQ.out; have h2 : 0 < q2 := h.2; omega)⟩
      · have hdq : decide (q2 ≤ 0) = false := decide_eq_false hq
        have hqn := HPOS.out hq
        have n1 : -17592186044416 ≤ q1 := hqn.1
        have n2 : q1 ≤ 17592186044416 := hqn.2.1
        have n3 : -17592186044416 ≤ q2 := hqn.2.2.1
        have n4 : q2 ≤ 17592186044416 := hqn.2.2.2
        have r3 : -17592186044416 ≤ r2 := HR.out.2.2.1
        have r4 : r2 ≤ 17592186044416 := HR.out.2.2.2
        obtain ⟨s, hs⟩ : ∃ s : Int, s = r2 - q2 := ⟨_, rfl⟩
        have hws : IntKind.i64.wrap (r2 - q2) = s := by rw [i64_id (by omega), hs]
        have HS := Lib.hid hs
        have HQ := Lib.hid hq
        clear hq hs hqn
        go_wp2_with (first | (go_at_call 41; refine (HIN.out _).mono ?_; rintro e w3 ⟨rfl, hb3⟩; have HF3 := Lib.hid ((HF2.out.alloc _).step hb3); obtain ⟨-, -, -, ⟨xz, yz, g5, g6, g7, g8⟩, g9, g10⟩ := HF3.out.facts; clear hb3) | (go_at_call 43; refine (empty_any q1 q2 _).mono ?_; rintro e w4 ⟨rfl, hb4⟩; have HF4 := Lib.hid ((HF3.out.put q1 q2).step hb4); have HX4 := Lib.hid ((show Bx _ b7 (q1, q2) from (by obtain ⟨_, _, _, ⟨z, h4⟩, _, _⟩ := HF3.out; exact h4.put q1 q2)).step hb4); obtain ⟨v1, v2, v3, v4⟩ := HX4.out.all; obtain ⟨⟨u1, u2, u3, u4⟩, ⟨u5, u6, u7, u8⟩, ⟨u9, u10, u11, u12⟩, -, u13, u14⟩ := HF4.out.facts; clear hb4) | (go_at_call 42; refine (end_any q1 q2 _ n1 n2 n3 n4).mono ?_; rintro e w5 ⟨rfl, hb5⟩; have HF5 := Lib.hid (HF4.out.step hb5); have HX5 := Lib.hid (HX4.out.step hb5); obtain ⟨t1, t2, t3, t4⟩ := HX5.out.all; obtain ⟨⟨z1, z2, z3, z4⟩, ⟨z5, z6, z7, z8⟩, ⟨z9, z10, z11, z12⟩, -, z13, z14⟩ := HF5.out.facts; clear hb5))
        go_region
        go_wp2
        have hend := ((((HF5.out.f3.set0 (q1 + q2)).set1 s).put4 q1 q2).put5 (q1 + q2) s).drew
        have hx : X = ((q1, q2), (q1 + q2, s), true) := by rw [HX.out, HS.out]; exact if_pos ⟨HK0.out, by have := HQ.out; show 0 < q2; omega⟩
        rw [hx]
        exact hend.fin rfl rfl rfl rfl
    · have hdk : decide (0 < ki) = false := decide_eq_false hk
      have HK0 := Lib.hid (show ¬ 0 < k by omega)
      go_wp2_with fail
      go_simp
      go_meet
      exact ⟨HF2, Lib.hid (fun h => HK0.out h.1)⟩
  case rest =>
    obtain ⟨HF, HNO⟩ := hcut
    obtain ⟨w6, rfl⟩ : ∃ w6 : World, w6 = wc := ⟨_, rfl⟩
    clear HF2
    obtain ⟨⟨f1, f2, f3, f4⟩, ⟨f11, f12, f13, f14⟩, ⟨f15, f16, f17, f18⟩, ⟨xx, yy, f5, f6, f7, f8⟩, f9, f10⟩ := HF.out.facts
    by_cases hlen : (L.length : Int) ≤ ki
    · go_wp2_with fail
      have hend := (HF.out.f3.put4 r1 r2).put5 0 0
      have hx : X = ((r1, r2), (0, 0), false) := by rw [HX.out, if_neg HNO.out, if_pos (by omega)]
      rw [hx]
      exact hend.fin rfl rfl rfl rfl
    · have hkL : k < L.length := by omega
      have k1 : ki < L.length := by omega
      obtain ⟨ad, rfl, x0, x1⟩ := HC.out k hkL
      have hnp : Near (at_ L k) := by rw [at_eq hkL]; exact HN.out _ (List.getElem_mem _)
      have hin := inter_any (at_ L k) (r1, r2) hnp HR.out
      have hpos := interP_pos hnp HR.out
      generalize interP (at_ L k) (r1, r2) = q at *
      obtain ⟨q1, q2⟩ := q
      generalize at_ L k = pp at *
      obtain ⟨p1, p2⟩ := pp
      simp only at hin x0 x1
      have hx1 : Hid (X = if q2 ≤ 0 then ((r1, r2), (0, 0), false) else if r1 < q1 then ((r1, q1 - r1), (q1, r2 - (q1 - r1)), false) else ((q1, q2), (q1 + q2, r2 - q2), true)) := Lib.hid (by rw [HX.out, if_neg HNO.out, if_neg (by omega)])
      have HIN := Lib.hid hin
      have HPOS := Lib.hid hpos
      have x0' := (HF.out.2.2.2.2.2.cell (World.block_lt_of_cell? _ _ x0)).trans x0
      have x1' := (HF.out.2.2.2.2.2.cell (World.block_lt_of_cell? _ _ x1)).trans x1
      have hbl := World.block_lt_of_cell? _ _ x0'
      have hbl1 := World.block_lt_of_cell? _ _ x1'
      clear hin hpos x0 x1 hnp HX HNO HC HSR
      by_cases hq : q2 ≤ 0
      · have hdq : decide (q2 ≤ 0) = true := decide_eq_true hq
        have HQ := Lib.hid hq
        clear hq
        go_wp2_with (first | (go_at_call 41; refine (HIN.out _).mono ?_; rintro e w3 ⟨rfl, hb3⟩; have HF3 := Lib.hid ((HF.out.alloc _).step hb3); obtain ⟨-, -, -, ⟨xz, yz, g5, g6, g7, g8⟩, g9, g10⟩ := HF3.out.facts; clear hb3) | (go_at_call 43; refine (empty_any q1 q2 _).mono ?_; rintro e w4 ⟨rfl, hb4⟩; have HF4 := Lib.hid ((HF3.out.put q1 q2).step hb4); obtain ⟨⟨u1, u2, u3, u4⟩, ⟨u5, u6, u7, u8⟩, ⟨u9, u10, u11, u12⟩, -, u13, u14⟩ := HF4.out.facts; clear hb4))
        have hend := (HF4.out.f3.put4 r1 r2).put5 0 0
        have hx : X = ((r1, r2), (0, 0), false) := by rw [hx1.out, if_pos HQ.out]
        rw [hx]
        exact hend.fin rfl rfl rfl rfl
      · have hdq : decide (q2 ≤ 0) = false := decide_eq_false hq
        have hqn := HPOS.out hq
        have n1 : -17592186044416 ≤ q1 := hqn.1
        have n2 : q1 ≤ 17592186044416 := hqn.2.1
        have n3 : -17592186044416 ≤ q2 := hqn.2.2.1
        have n4 : q2 ≤ 17592186044416 := hqn.2.2.2
        have r3 : -17592186044416 ≤ r2 := HR.out.2.2.1
        have r4 : r2 ≤ 17592186044416 := HR.out.2.2.2
        have r5 : -17592186044416 ≤ r1 := HR.out.1
        have r6 : r1 ≤ 17592186044416 := HR.out.2.1
        have HQ := Lib.hid hq
        clear hq hqn
        by_cases hlt : r1 < q1
        · have hdl : decide (r1 < q1) = true := decide_eq_true hlt
          obtain ⟨d, hd'⟩ : ∃ d : Int, d = q1 - r1 := ⟨_, rfl⟩
          obtain ⟨s, hs⟩ : ∃ s : Int, s = r2 - d := ⟨_, rfl⟩
          have hwd : IntKind.i64.wrap (q1 - r1) = d := by rw [i64_id (by omega), hd']
          have hws : IntKind.i64.wrap (r2 - d) = s := by rw [i64_id (by omega), hs]
          have hde : Hid (∀ W, Calls Try.prog 42 #[.agg #[.int .i64 r1, .int .i64 d]] W fun e w' => e = .returned (.int .i64 q1) ∧ Below W.heap.size W w') := Lib.hid (fun W => by
            have := end_any2 r1 d W (by omega) (by omega)
            rwa [show r1 + d = q1 by omega] at this)
          have HD := Lib.hid hd'
          have HS := Lib.hid hs
          clear hd' hs
          go_wp2_with (first | (go_at_call 41; refine (HIN.out _).mono ?_; rintro e w3 ⟨rfl, hb3⟩; have HF3 := Lib.hid ((HF.out.alloc _).step hb3); obtain ⟨-, -, -, ⟨xz, yz, g5, g6, g7, g8⟩, g9, g10⟩ := HF3.out.facts; clear hb3) | (go_at_call 43; refine (empty_any q1 q2 _).mono ?_; rintro e w4 ⟨rfl, hb4⟩; have HF4 := Lib.hid ((HF3.out.put q1 q2).step hb4); have HX4 := Lib.hid ((show Bx _ b7 (q1, q2) from (by obtain ⟨_, _, _, ⟨z, h4⟩, _, _⟩ := HF3.out; exact h4.put q1 q2)).step hb4); obtain ⟨v1, v2, v3, v4⟩ := HX4.out.all; obtain ⟨⟨u1, u2, u3, u4⟩, ⟨u5, u6, u7, u8⟩, ⟨u9, u10, u11, u12⟩, -, u13, u14⟩ := HF4.out.facts; clear hb4) | (go_at_call 42; refine (hde.out _).mono ?_; rintro e w5 ⟨rfl, hb5⟩; have HG5 := Lib.hid ((HF4.out.f3.put4 r1 d).step hb5); obtain ⟨z1, z2, z3, z4⟩ := HG5.out.1.all; obtain ⟨z5, z6, z7, z8⟩ := HG5.out.2.1.all; obtain ⟨z9, z10, z11, z12⟩ := HG5.out.2.2.1.all; clear hb5))
          go_region
          go_wp2
          have hend := ((((HG5.out.set0 q1).set1 s).put4 r1 d).put5 q1 s).drew
          have hx : X = ((r1, d), (q1, s), false) := by rw [hx1.out, if_neg (by have := HQ.out; omega), if_pos hlt, HS.out, HD.out]
          rw [hx]
          exact hend.fin rfl rfl rfl rfl
        · have hdl : decide (r1 < q1) = false := decide_eq_false hlt
          obtain ⟨s, hs⟩ : ∃ s : Int, s = r2 - q2 := ⟨_, rfl⟩
          have hws : IntKind.i64.wrap (r2 - q2) = s := by rw [i64_id (by omega), hs]
          have HS := Lib.hid hs
          clear hs
          go_wp2_with (first | (go_at_call 41; refine (HIN.out _).mono ?_; rintro e w3 ⟨rfl, hb3⟩; have HF3 := Lib.hid ((HF.out.alloc _).step hb3); obtain ⟨-, -, -, ⟨xz, yz, g5, g6, g7, g8⟩, g9, g10⟩ := HF3.out.facts; clear hb3) | (go_at_call 43; refine (empty_any q1 q2 _).mono ?_; rintro e w4 ⟨rfl, hb4⟩; have HF4 := Lib.hid ((HF3.out.put q1 q2).step hb4); have HX4 := Lib.hid ((show Bx _ b7 (q1, q2) from (by obtain ⟨_, _, _, ⟨z, h4⟩, _, _⟩ := HF3.out; exact h4.put q1 q2)).step hb4); obtain ⟨v1, v2, v3, v4⟩ := HX4.out.all; obtain ⟨⟨u1, u2, u3, u4⟩, ⟨u5, u6, u7, u8⟩, ⟨u9, u10, u11, u12⟩, -, u13, u14⟩ := HF4.out.facts; clear hb4) | (go_at_call 42; refine (end_any q1 q2 _ n1 n2 n3 n4).mono ?_; rintro e w5 ⟨rfl, hb5⟩; have HF5 := Lib.hid (HF4.out.step hb5); have HX5 := Lib.hid (HX4.out.step hb5); obtain ⟨t1, t2, t3, t4⟩ := HX5.out.all; obtain ⟨⟨z1, z2, z3, z4⟩, ⟨z5, z6, z7, z8⟩, ⟨z9, z10, z11, z12⟩, -, z13, z14⟩ := HF5.out.facts; clear hb5))
          go_region
          go_wp2
          have hend := ((((HF5.out.f3.set0 (q1 + q2)).set1 s).put4 q1 q2).put5 (q1 + q2) s).drew
          have hx : X = ((q1, q2), (q1 + q2, s), true) := by rw [hx1.out, if_neg (by have := HQ.out; omega), if_neg (by omega), HS.out]
          rw [hx]
          exact hend.fin rfl rfl rfl rfl

/-! in the printer's form -/
def near (x : S48) : Bool := decide (-17592186044416 ≤ x.f0 ∧ x.f0 ≤ 17592186044416 ∧ -17592186044416 ≤ x.f1 ∧ x.f1 ≤ 17592186044416)
theorem near_ok {x : S48} (h : near x = true) : Near (p48 x) := by
  have := of_decide_eq_true (p := -17592186044416 ≤ x.f0 ∧ x.f0 ≤ 17592186044416 ∧ -17592186044416 ≤ x.f1 ∧ x.f1 ≤ 17592186044416) h
  exact this
def ranges_Find.f (l0 : List S48) (a1_0 : Int) (a1_1 : Int) : Option (Int × Int × Int × Int × Bool) :=
  if rises l0 = true ∧ l0.length ≤ 100000 ∧ l0.all near = true ∧ near ⟨a1_0, a1_1⟩ = true then
    some ((findP (l0.map p48) (a1_0, a1_1)).1.1, (findP (l0.map p48) (a1_0, a1_1)).1.2, (findP (l0.map p48) (a1_0, a1_1)).2.1.1, (findP (l0.map p48) (a1_0, a1_1)).2.1.2, (findP (l0.map p48) (a1_0, a1_1)).2.2)
  else none
theorem ranges_Find.calls (A0 : Option Addr) (c0 : Nat) (l0 : List S48) (a1_0 : Int) (a1_1 : Int) (r1 r2 r3 r4 : Int) (r5 : Bool) (w : World) (hr0 : Kd.C k48 w A0 l0.length l0) (hc0 : l0.length ≤ c0) (h : ranges_Find.f l0 a1_0 a1_1 = some (r1, r2, r3, r4, r5)) :
    Calls Try.prog 33 #[.slice A0 l0.length c0, .agg #[.int .i64 a1_0, .int .i64 a1_1]] w fun e w' => e = .returned (.tuple #[.agg #[.int .i64 r1, .int .i64 r2], .agg #[.int .i64 r3, .int .i64 r4], .bool r5]) ∧ Below w.heap.size w w' := by
  unfold ranges_Find.f at h
  split at h
  · rename_i hc
    obtain ⟨h1, h2, h3, h4⟩ := hc
    simp only [Option.some.injEq, Prod.mk.injEq] at h
    obtain ⟨rfl, rfl, rfl, rfl, rfl⟩ := h
    have e : l0.length = (l0.map p48).length := by simp
    rw [e]
    by_cases h0 : a1_1 ≤ 0
    · have := find_empty (.slice A0 (l0.map p48).length c0) a1_0 a1_1 w h0
      have hf : findP (l0.map p48) (a1_0, a1_1) = ((a1_0, a1_1), (0, 0), false) := by unfold findP; rw [if_pos (by exact h0)]
      rw [hf]
      exact this
    · refine find_any A0 c0 (l0.map p48) a1_0 a1_1 w (by simpa using h2) (rises_law h1) (fun x hx => ?_) (near_ok h4) h0 (fun i hi => ?_)
      · obtain ⟨y, hy, rfl⟩ := List.mem_map.1 hx
        exact near_ok (List.all_eq_true.1 h3 y hy)
      · have hi' : i < l0.length := by simpa using hi
        obtain ⟨ad, e, c1, c2⟩ := at_T48 hr0 (i : Int) (by omega) (by omega)
        rw [Int.toNat_natCast] at c1 c2
        have er : rd_T48 l0 (i : Int) = l0[i] := by simp [rd_T48, hi']
        rw [er] at c1 c2
        refine ⟨ad, e, ?_, ?_⟩
        · rw [c1, at_eq hi]; simp [p48]
        · rw [c2, at_eq hi]; simp [p48]
  · cases h
def ranges_Range_Intersection.f (a0_0 : Int) (a0_1 : Int) (a1_0 : Int) (a1_1 : Int) : Option (Int × Int) :=
  if near ⟨a0_0, a0_1⟩ = true ∧ near ⟨a1_0, a1_1⟩ = true then some (interP (a0_0, a0_1) (a1_0, a1_1)) else none
theorem ranges_Range_Intersection.calls (a0_0 : Int) (a0_1 : Int) (a1_0 : Int) (a1_1 : Int) (r1 : Int) (r2 : Int) (w : World) (h : ranges_Range_Intersection.f a0_0 a0_1 a1_0 a1_1 = some (r1, r2)) :
    Calls Try.prog 41 #[.agg #[.int .i64 a0_0, .int .i64 a0_1], .agg #[.int .i64 a1_0, .int .i64 a1_1]] w fun e w' => e = .returned (.agg #[.int .i64 r1, .int .i64 r2]) ∧ Below w.heap.size w w' := by
  unfold ranges_Range_Intersection.f at h
  split at h
  · rename_i hc
    have e := Option.some.inj h
    have := inter_any (a0_0, a0_1) (a1_0, a1_1) (near_ok hc.1) (near_ok hc.2) w
    rw [e] at this
    exact this
  · cases h
end Go.Proofs.Ytmkhkkfliecfdaa.Given
