/- The contract of impl.BucketSteps: what each step answers, by a function from names to what is known of them; up to 1000 steps, over names of at most 1,000,000 bytes; the variable ErrAlreadyDeleted holds an error. -/
import Derived.Test.YtcomnkbkkpeilaaDoorCr
import Derived.Test.YtcomnkbkkpeilaaDoorPAxk
import Derived.Laws.AppendOwn
import Derived.Maps.AppendAt
import Derived.LaidEql
import Derived.Deep.DeepCutAuto
import Derived.Deep.CutBlock
namespace Go.Proofs.YtcomnkbkkpeilaaDoor.Given
open Go.RowKit Go.WideMaps Go.Maps Go.Proofs.YtcomnkbkkpeilaaDoorW.PrintWords Go.Proofs.YtcomnkbkkpeilaaDoor.PA
set_option linter.unusedVariables false
set_option linter.unusedSimpArgs false

def stepB (f : ByteArray → Option Bool) (s : S28) : (ByteArray → Option Bool) × S30 :=
  if s.f0 = 0 then (if s.f1 = ⟨#[]⟩ then f else upd f s.f1 true, z30)
  else if s.f0 = 1 then (if s.f1 = ⟨#[]⟩ then f else upd f s.f1 false, z30)
  else if s.f0 = 2 then (f, ⟨f s.f1 == some false, false, false, 0⟩)
  else if s.f0 = 3 then ((crF f s.f1 s.f2 s.f3 s.f4 s.f5).1, ⟨false, (crF f s.f1 s.f2 s.f3 s.f4 s.f5).2.1, (crF f s.f1 s.f2 s.f3 s.f4 s.f5).2.2.1, (crF f s.f1 s.f2 s.f3 s.f4 s.f5).2.2.2⟩)
  else if s.f0 = 4 then (if s.f1 = ⟨#[]⟩ then (f, z30) else if f s.f1 = some false then (f, ⟨false, false, false, 3⟩) else if s.f2 then (upd f s.f1 false, ⟨false, true, false, 0⟩) else (f, ⟨false, true, false, 1⟩))
  else (f, z30)
def runB : (ByteArray → Option Bool) → List S28 → List S30
  | _, [] => []
  | f, s :: l => (stepB f s).2 :: runB (stepB f s).1 l

def cells30 (x : S30) : List Value := [.bool x.f0, .bool x.f1, .bool x.f2, .int .i64 x.f3]
def flat30 (l : List S30) : List Value := (l.map cells30).flatten

/-- Block g holds an error's text. -/
def ErrAt (w : World) (g : Nat) : Prop := ∃ c, w.heap[g]? = some (.cells c 58 (0, 0))
theorem ErrAt.kept {w w' : World} {g : Nat} (h : ErrAt w g) (hb : w'.heap[g]? = w.heap[g]?) : ErrAt w' g := by
  obtain ⟨c, hc⟩ := h
  exact ⟨c, hb.trans hc⟩
theorem ErrAt.lt {w : World} {g : Nat} (h : ErrAt w g) : g < w.heap.size := by
  obtain ⟨c, hc⟩ := h
  exact ltH hc

theorem mkMap (n : Int) (w : World) : (Instr.makeMap 53 (some (.int .i64 n))).run Tryd.prog w = .ok (.map (some w.heap.size)) (w.alloc (.map #[] 0)) := by kernel_rfl
theorem info56 : ∃ i, Tryd.prog.info? 56 = some i ∧ i.comparable = true := by
  have h : (Tryd.prog.info? 56).map (fun i => i.comparable) = some true := by kernel_rfl
  cases hi : Tryd.prog.info? 56 with
  | none => rw [hi] at h; cases h
  | some i => rw [hi] at h; exact ⟨i, rfl, Option.some.inj h⟩
theorem info58 : ∃ i, Tryd.prog.info? 58 = some i ∧ i.size ≠ 0 := by
  have h : (Tryd.prog.info? 58).map (fun i => i.size) = some 1 := by kernel_rfl
  cases hi : Tryd.prog.info? 58 with
  | none => rw [hi] at h; cases h
  | some i => rw [hi] at h; exact ⟨i, rfl, by have h1 : i.size = 1 := Option.some.inj h; rw [h1]; decide⟩
theorem ev_same (a : Nat) (w : World) : (binOp .eql 41 (ev a) (ev a)).run Tryd.prog w = .ok (.bool true) w := by
  obtain ⟨i, hi, hc⟩ := info56
  obtain ⟨j, hj, _⟩ := info58
  exact run_eql_iface_ptr_same w ⟨a, 0, none⟩ Tryd.underlying41 Tryd.underlying56 hi hc hj
theorem ev_other {a b : Nat} {w : World} (hne : a ≠ b) (ha : ErrAt w a) (hb : ErrAt w b) : (binOp .eql 41 (ev a) (ev b)).run Tryd.prog w = .ok (.bool false) w := by
  obtain ⟨i, hi, hc⟩ := info56
  obtain ⟨j, hj, hz⟩ := info58
  obtain ⟨ca, ha⟩ := ha
  obtain ⟨cb, hb⟩ := hb
  exact run_eql_iface_ptr_other w Tryd.underlying41 Tryd.underlying56 hi hc hj hz (fun e => hne (congrArg Addr.block e)) ha hb
def evA (a : Addr) : Value := .iface 56 (.pointer (some a))
/-- Block g holds cells that may be written. -/
def ErrAny (w : World) (g : Nat) : Prop := ∃ c t, w.heap[g]? = some (.cells c t (0, 0))
theorem ErrAny.kept {w w' : World} {g : Nat} (h : ErrAny w g) (hb : w'.heap[g]? = w.heap[g]?) : ErrAny w' g := by
  obtain ⟨c, t, hc⟩ := h
  exact ⟨c, t, hb.trans hc⟩
theorem ErrAny.lt {w : World} {g : Nat} (h : ErrAny w g) : g < w.heap.size := by
  obtain ⟨c, t, hc⟩ := h
  exact ltH hc
theorem evA_same (a : Addr) (w : World) : (binOp .eql 41 (evA a) (evA a)).run Tryd.prog w = .ok (.bool true) w := by
  obtain ⟨i, hi, hc⟩ := info56
  obtain ⟨j, hj, _⟩ := info58
  exact run_eql_iface_ptr_same w a Tryd.underlying41 Tryd.underlying56 hi hc hj
theorem evA_other {a : Addr} {b : Nat} {w : World} (hne : a ≠ ⟨b, 0, none⟩) (ha : ErrAny w a.block) (hb : ErrAt w b) : (binOp .eql 41 (evA a) (ev b)).run Tryd.prog w = .ok (.bool false) w := by
  obtain ⟨i, hi, hc⟩ := info56
  obtain ⟨j, hj, hz⟩ := info58
  obtain ⟨ca, ta, ha⟩ := ha
  obtain ⟨cb, hb⟩ := hb
  exact run_eql_iface_ptr_other w Tryd.underlying41 Tryd.underlying56 hi hc hj hz hne ha hb
theorem evA_nil (a : Addr) (w : World) : (binOp .eql 41 (evA a) .nilIface).run Tryd.prog w = .ok (.bool false) w := by
  kernel_rfl
theorem ev_nil (a : Nat) (w : World) : (binOp .eql 41 (ev a) .nilIface).run Tryd.prog w = .ok (.bool false) w := by
  kernel_rfl

set_option maxHeartbeats 400000 in
theorem newCache (w : World) : Calls Tryd.prog 12 #[] w fun e w' => ∃ gC m, e = .returned (.pointer (some ⟨gC, 0, none⟩)) ∧ w'.heap[gC]? = some (.cells #[.map (some m)] 55 (0, 0)) ∧ MapOf w' m 0 (fun _ => none) ∧ w.heap.size ≤ m ∧ w.heap.size ≤ gC ∧ Below w.heap.size w w' := by
  have hmm := mkMap
  have h1 := MapOf.made w
  go_enter Tryd.func12, Tryd.ntmps12
  go_wp2
  go_ret
  refine ⟨_, _, rfl, ?_, ?_, Nat.le_refl _, ?_, ((Below.refl _ _).alloc (Nat.le_refl _) _).alloc (by simp) _⟩
  · have := (MapKept.heap_alloc (w.alloc (.map #[] 0)) (.cells #[.map (some w.heap.size)] 55 (0, 0))).1
    simpa using this
  · exact h1.kept (Below.heap_alloc _ _ _ (by simp))
  · simp
set_option maxHeartbeats 400000 in
theorem errNew (s : ByteArray) (w : World) : Calls Tryd.prog 13 #[.string s] w fun e w' => ∃ g, e = .returned (.iface 56 (.pointer (some ⟨g, 0, none⟩))) ∧ w.heap.size ≤ g ∧ ErrAt w' g ∧ Below w.heap.size w w' := by
  go_enter Tryd.func13, Tryd.ntmps13
  go_wp2
  go_ret
  exact ⟨_, rfl, Nat.le_refl _, ⟨_, (MapKept.heap_alloc w _).1⟩, (Below.refl _ _).alloc (Nat.le_refl _) _⟩

def impl_BucketSteps.f (l : List S28) : Option (List S30) := if l.length ≤ 1000 ∧ l.all (fun s => decide (s.f1.size ≤ 1000000)) = true then some (runB (fun _ => none) l) else none

/-- What the loop holds between two steps. -/
structure Loop (w0 w : World) (gC m n b4 b5 g0 g1 g2 : Nat) (f : ByteArray → Option Bool) : Prop where
  bel : Below w0.heap.size w0 w
  hC : w.heap[gC]? = some (.cells #[.map (some m)] 55 (0, 0))
  hM : MapOf w m n f
  h4 : w.heap[b4]? = some (.cells #[ev g1] 41 (0, 0))
  h5 : w.heap[b5]? = some (.cells #[ev g2] 41 (0, 0))
  e1 : ErrAt w g1
  e2 : ErrAt w g2
  ord : 0 < w0.heap.size ∧ g0 < w0.heap.size ∧ w0.heap.size ≤ g1 ∧ g1 < g2 ∧ w0.heap.size ≤ m ∧ w0.heap.size ≤ b4

theorem Keep.below {A m B : Nat} {w0 a b : World} (h : Keep A m a b) (hA : B ≤ A) (hm : B ≤ m) (hb : Below B w0 a) (hB : B ≤ w0.heap.size) : Below B w0 b :=
  hb.trans ⟨h.os, h.tape, h.output, h.size, fun k hk => h.block k (by have := hb.size; omega) (by omega) (by omega)⟩
def errX (a0 : Addr) (g1 g2 : Nat) (x : Int) : Value := if x = 0 then .nilIface else if x = 1 then ev g1 else if x = 2 then ev g2 else evA a0
theorem own_neM {w : World} {base : Nat} {e : TypeId} {size n m k : Nat} {f : ByteArray → Option Bool} {v : Value} {xs : List Value} (h : w.ownsRow base e size v n xs) (hM : MapOf w m k f) : ∀ g, v.ownBlock = some g → g ≠ m := by
  intro g hg
  rcases h.2 with ⟨rfl, _⟩ | ⟨g', cap, cur, rfl, _, hh, _⟩
  · cases hg
  · cases hg
    exact neM hM hh
theorem cells_four (w : World) (x y z u : Value) (t : TypeId) : ∀ j q, [x, y, z, u][j]? = some q → (w.alloc (.cells #[x, y, z, u] t)).cell? ((⟨w.heap.size, 0, none⟩ : Addr).add j) = some q := by
  intro j q hq
  have hj : j < 4 := (List.getElem?_eq_some_iff.1 hq).1
  rcases j with _ | _ | _ | _ | j
  · simp at hq; subst hq; simp [Addr.add]
  · simp at hq; subst hq; simp [Addr.add]
  · simp at hq; subst hq; simp [Addr.add]
  · simp at hq; subst hq; simp [Addr.add]
  · omega
theorem Env.fresh {wr : World} {gC m n b4 b5 g1 g2 : Nat} {f : ByteArray → Option Bool} {dv : Int} {b : ByteArray} {good asks found fails : Bool} (hC : wr.heap[gC]? = some (.cells #[.map (some m)] 55 (0, 0))) (hM : MapOf wr m n f)
    (h4 : wr.heap[b4]? = some (.cells #[ev g1] 41 (0, 0))) (h5 : wr.heap[b5]? = some (.cells #[ev g2] 41 (0, 0))) :
    Env ((wr.alloc (.cells #[.int .i64 dv, .string b, .bool good, .bool asks, .bool found, .bool fails] 28)).alloc (.cells #[.bool false, .bool false, .bool false, .int .i64 0] 30)) gC m n (wr.heap.size + 1) wr.heap.size b4 b5 g1 g2 f dv b good asks found fails false false false 0 := by
  have k : ∀ g, g < wr.heap.size → ((wr.alloc (.cells #[.int .i64 dv, .string b, .bool good, .bool asks, .bool found, .bool fails] 28)).alloc (.cells #[.bool false, .bool false, .bool false, .int .i64 0] 30)).heap[g]? = wr.heap[g]? := fun g hg =>
    (((Below.refl wr.heap.size wr).alloc (Nat.le_refl _) _).alloc (by simp) _).block g hg
  refine ⟨(k _ (ltH hC)).trans hC, hM.kept (k _ hM.lt), ?_, ?_, (k _ (ltH h4)).trans h4, (k _ (ltH h5)).trans h5⟩
  · have := (MapKept.heap_alloc (wr.alloc (.cells #[.int .i64 dv, .string b, .bool good, .bool asks, .bool found, .bool fails] 28)) (.cells #[.bool false, .bool false, .bool false, .int .i64 0] 30)).1
    simpa using this
  · have h1 := (MapKept.heap_alloc wr (.cells #[.int .i64 dv, .string b, .bool good, .bool asks, .bool found, .bool fails] 28)).1
    exact (Below.heap_alloc _ _ _ (by simp)).trans h1

theorem loop_after {w w7 w8 : World} {gC m n A S b4 b5 g0 g1 g2 : Nat} {f : ByteArray → Option Bool} {dv : Int} {b : ByteArray} {good asks found fails dl ca as_ : Bool} {er : Int} {v : Value} {i : Nat} {xs : List Value} {o : Obj}
    (hE : Env w7 gC m n A S b4 b5 g1 g2 f dv b good asks found fails dl ca as_ er) (bel7 : Below w.heap.size w w7) (e1 : ErrAt w7 g1) (e2 : ErrAt w7 g2) (ho : w7.ownsRow w.heap.size 30 4 v i xs) (hg : (w7.alloc o).grownBy w8 v.ownBlock)
    (ord : 0 < w.heap.size ∧ g0 < w.heap.size ∧ w.heap.size ≤ g1 ∧ g1 < g2 ∧ w.heap.size ≤ m ∧ w.heap.size ≤ b4) : Loop w w8 gC m n b4 b5 g0 g1 g2 f := by
  have k : ∀ g, g < w7.heap.size → some g ≠ v.ownBlock → w8.heap[g]? = w7.heap[g]? := fun g h1 h2 => (hg.block g (by simp; omega) h2).trans (Below.heap_alloc _ _ _ h1)
  obtain ⟨c1, e1⟩ := e1
  obtain ⟨c2, e2⟩ := e2
  refine ⟨?_, (k _ (ltH hE.hC) (own_ne ho hE.hC (by decide))).trans hE.hC, hE.hM.kept (k _ hE.hM.lt (fun e => own_neM ho hE.hM m e.symm rfl)), (k _ (ltH hE.h4) (own_ne ho hE.h4 (by decide))).trans hE.h4, (k _ (ltH hE.h5) (own_ne ho hE.h5 (by decide))).trans hE.h5, ⟨c1, (k _ (ltH e1) (own_ne ho e1 (by decide))).trans e1⟩, ⟨c2, (k _ (ltH e2) (own_ne ho e2 (by decide))).trans e2⟩, ord⟩
  exact (bel7.alloc bel7.size _).grown hg (by have := bel7.size; simp; omega) (fun j hj => own_base ho j hj)
theorem step_err (f : ByteArray → Option Bool) (s : S28) : (stepB f s).2.f3 = 0 ∨ (stepB f s).2.f3 = 1 ∨ (stepB f s).2.f3 = 2 ∨ (stepB f s).2.f3 = 3 := by
  unfold stepB crF
  repeat' split
  all_goals simp [z30]
theorem flat_snoc (acc : List S30) (x : S30) : flat30 (acc ++ [x]) = flat30 acc ++ cells30 x := by simp [flat30]

set_option maxHeartbeats 4000000 in
set_option maxRecDepth 100000 in
theorem steps_any (A0 : Option Addr) (c : Nat) (l : List S28) (w : World) (hr : Kd.C k28 w A0 l.length l) (hc : l.length ≤ c) (hl : l.length ≤ 1000) (hz : ∀ s ∈ l, s.f1.size ≤ 1000000) (a0 : Addr) (hG : ErrAny w a0.block) (hL : w.cell? ⟨0, 0, none⟩ = some (evA a0)) :
    Calls Tryd.prog 8 #[.slice A0 l.length c] w fun e w' => ∃ v, e = .returned v ∧ w'.ownsRow w.heap.size 30 4 v l.length (flat30 (runB (fun _ => none) l)) ∧ Below w.heap.size w w' := by
  go_enter Tryd.func8, Tryd.ntmps8
  have tok1 : True := trivial
  go_wp2_with (first
    | (go_at_call 12; go_must (refine (newCache _).mono ?_; rintro e w1 ⟨gC, m, rfl, hC, hM, hm, hgC, hb1⟩))
    | (go_at_call 13; have _t := tok1; clear tok1; go_must (refine (errNew _ _).mono ?_; rintro e w2 ⟨g1, rfl, hg1, he1, hb2⟩))
    | (go_at_call 13; go_must (refine (errNew _ _).mono ?_; rintro e w3 ⟨g2, rfl, hg2, he2, hb3⟩)))
  obtain ⟨B4, hB4⟩ : ∃ b, w3.heap.size = b := ⟨_, rfl⟩
  rw [hB4]
  go_loopg [6, 18] l.length (fun gf s6 s18 wx => ∃ (i n : Nat) (f : ByteArray → Option Bool) (acc : List S30), s18 = .int .i64 i ∧ i ≤ l.length ∧ l.length ≤ i + gf ∧ n ≤ 2 * i ∧ acc.length = i ∧ wx.ownsRow w.heap.size 30 4 s6 i (flat30 acc) ∧
    Loop w wx gC m n B4 (B4 + 1) a0.block g1 g2 f ∧ Hid (acc ++ runB f (l.drop i) = runB (fun _ => none) l))
  case atStart =>
    have hB : Below w.heap.size w ((w3.alloc (.cells #[.iface 56 (.pointer (some ⟨g1, 0, none⟩))] 41)).alloc (.cells #[.iface 56 (.pointer (some ⟨g2, 0, none⟩))] 41)) := by
      have h3 := (hb1.trans (hb2.mono hb1.size)).trans (hb3.mono (Nat.le_trans hb1.size hb2.size))
      exact (h3.alloc h3.size _).alloc (by have := h3.size; simp; omega) _
    have k : ∀ g, g < w3.heap.size → ((w3.alloc (.cells #[.iface 56 (.pointer (some ⟨g1, 0, none⟩))] 41)).alloc (.cells #[.iface 56 (.pointer (some ⟨g2, 0, none⟩))] 41)).heap[g]? = w3.heap[g]? := fun g hg => (Below.heap_alloc _ _ _ (by simp; omega)).trans (Below.heap_alloc _ _ _ hg)
    have k1 : ∀ g, g < w1.heap.size → ((w3.alloc (.cells #[.iface 56 (.pointer (some ⟨g1, 0, none⟩))] 41)).alloc (.cells #[.iface 56 (.pointer (some ⟨g2, 0, none⟩))] 41)).heap[g]? = w1.heap[g]? := fun g hg =>
      ((k g (by have := hb2.size; have := hb3.size; omega)).trans (hb3.block g (by have := hb2.size; omega))).trans (hb2.block g hg)
    have h5 := (MapKept.heap_alloc (w3.alloc (.cells #[.iface 56 (.pointer (some ⟨g1, 0, none⟩))] 41)) (.cells #[.iface 56 (.pointer (some ⟨g2, 0, none⟩))] 41)).1
    have h4 := (MapKept.heap_alloc w3 (.cells #[.iface 56 (.pointer (some ⟨g1, 0, none⟩))] 41)).1
    have hs3 : (w3.alloc (.cells #[.iface 56 (.pointer (some ⟨g1, 0, none⟩))] 41)).heap.size = B4 + 1 := by simp [hB4]
    rw [hs3] at h5
    rw [hB4] at h4
    have s1 := hb1.size
    have s2 := hb2.size
    have s3 := hb3.size
    have l1 := he1.lt
    have l2 := he2.lt
    have hw0 : 0 < w.heap.size := by
      have := hL
      rcases Nat.eq_zero_or_pos w.heap.size with h0 | h0
      · have hn : w.heap[0]? = none := Array.getElem?_eq_none (by omega)
        simp [World.cell?, hn] at this
      · exact h0
    refine ⟨0, 0, fun _ => none, [], rfl, Nat.zero_le _, by omega, Nat.zero_le _, rfl, own_nil _ _ _ _, ⟨hB, (k1 _ (ltH hC)).trans hC, hM.kept (k1 _ hM.lt), ?_, h5, he1.kept ((k _ (by omega)).trans (hb3.block _ l1)), he2.kept (k _ l2), ⟨hw0, hG.lt, by omega, by omega, hm, by omega⟩⟩, Lib.hid (by simp)⟩
    exact (Below.heap_alloc _ _ _ (by rw [hs3]; omega)).trans h4
  case round =>
    obtain ⟨i, n, f, acc, rfl, hi, hfu, hn, hal, hown, hLp, hH⟩ := hrel
    by_cases hlt : i < l.length
    · have hC1 := Kd.C_below hr hLp.bel
      obtain ⟨ad, hA0, x0, x1, x2, x3, x4, x5⟩ := at_T28 hC1 (i : Int) (by omega) (by omega)
      obtain ⟨s, hs⟩ : ∃ s, rd_T28 l (i : Int) = s := ⟨_, rfl⟩
      have hsl : l[i] = s := by rw [← hs]; simp [rd_T28, hlt]
      have hzs : s.f1.size ≤ 1000000 := by rw [← hsl]; exact hz _ (List.getElem_mem hlt)
      have hH2 : Hid (acc ++ [(stepB f s).2] ++ runB (stepB f s).1 (l.drop (i + 1)) = runB (fun _ => none) l) := Lib.hid (by rw [← hH.out, List.drop_eq_getElem_cons hlt, hsl, List.append_assoc]; rfl)
      clear hH
      rw [hs] at x0 x1 x2 x3 x4 x5
      simp only [Int.toNat_natCast] at x0 x1 x2 x3 x4 x5
      subst hA0
      obtain ⟨dv, b, good, asks, found, fails⟩ := s
      simp only at x0 x1 x2 x3 x4 x5 hzs
      obtain ⟨S, hS⟩ : ∃ S, wr.heap.size = S := ⟨_, rfl⟩
      have hE := Env.fresh (dv := dv) (b := b) (good := good) (asks := asks) (found := found) (fails := fails) hLp.hC hLp.hM hLp.h4 hLp.h5
      have hW0 : Below wr.heap.size wr ((wr.alloc (.cells #[.int .i64 dv, .string b, .bool good, .bool asks, .bool found, .bool fails] 28)).alloc (.cells #[.bool false, .bool false, .bool false, .int .i64 0] 30)) := ((Below.refl _ _).alloc (Nat.le_refl _) _).alloc (by simp) _
      rw [hS] at hE
      have hS0 := cellH hE.hS 3 _ rfl
      have hS1 := cellH hE.hS 0 _ rfl
      have hS2 := cellH hE.hS 1 _ rfl
      simp only [List.getElem_toArray, List.getElem_cons_succ, List.getElem_cons_zero] at hS0 hS1 hS2
      go_upto_if 24 with fail
      obtain ⟨W2, hW2⟩ : ∃ W2, ((wr.alloc (.cells #[.int .i64 dv, .string b, .bool good, .bool asks, .bool found, .bool fails] 28)).alloc (.cells #[.bool false, .bool false, .bool false, .int .i64 0] 30)) = W2 := ⟨_, rfl⟩
      rw [hW2] at hE hW0 hS0 hS1 hS2
      rw [hW2]
      clear hW2 x0 x1 x2 x3 x4 x5
      go_cut [11] (fun v11 wx => v11 = askV (S + 1) S (B4 + 1) asks ∧ wx = W2)
      case first =>
        cases asks with
        | true =>
          go_wp2_with fail
          go_meet
          case rel => exact ⟨rfl, rfl⟩
        | false =>
          go_wp2_with fail
          go_meet
          case rel => exact ⟨rfl, rfl⟩
      case rest =>
        obtain ⟨rfl, hwc⟩ := hcut
        rw [hwc]
        clear hwc
        go_upto_block 2 with fail
        obtain ⟨x, hx⟩ : ∃ x, (stepB f ⟨dv, b, good, asks, found, fails⟩).2 = x := ⟨_, rfl⟩
        obtain ⟨f', hf'⟩ : ∃ f', (stepB f ⟨dv, b, good, asks, found, fails⟩).1 = f' := ⟨_, rfl⟩
        have hkr := fun q => Keep.refl (S + 1) m q
        go_cut [12] (fun v12 wx => v12 = errX a0 g1 g2 x.f3 ∧ Env wx gC m (n + 2) (S + 1) S B4 (B4 + 1) g1 g2 f' dv b good asks found fails x.f0 x.f1 x.f2 0 ∧ Keep (S + 1) m W2 wx)
        case first =>
          have hn9 : n ≤ 999990 := by omega
          by_cases d0 : dv = 0
          · subst d0
            obtain rfl : z30 = x := by rw [← hx]; rfl
            by_cases hb : b = ⟨#[]⟩
            · subst hb
              obtain rfl : f = f' := by rw [← hf']; rfl
              go_wp2_with (go_at_call 16; go_must (refine (markNo _ _).mono ?_; rintro e w5 ⟨rfl, rfl⟩))
              go_meet
              case rel => exact ⟨rfl, hE.mono (by omega), hkr _⟩
            · obtain rfl : upd f b true = f' := by rw [← hf']; simp [stepB, hb]
              go_wp2_with (go_at_call 16; go_must (refine (markOK gC m n f b _ hE.hC hE.hM (by omega) hzs hb).mono ?_; rintro e w5 ⟨rfl, hM5, hk5⟩))
              go_meet
              case rel => exact ⟨rfl, (hE.put hM5 hk5).mono (by omega), Keep.grown hk5⟩
          have d0b : (dv == 0) = false := by simp [d0]
          by_cases d1 : dv = 1
          · subst d1
            obtain rfl : z30 = x := by rw [← hx]; rfl
            by_cases hb : b = ⟨#[]⟩
            · subst hb
              obtain rfl : f = f' := by rw [← hf']; rfl
              go_wp2_with (go_at_call 17; go_must (refine (markNo' _ _).mono ?_; rintro e w5 ⟨rfl, rfl⟩))
              go_meet
              case rel => exact ⟨rfl, hE.mono (by omega), hkr _⟩
            · obtain rfl : upd f b false = f' := by rw [← hf']; simp [stepB, hb]
              go_wp2_with (go_at_call 17; go_must (refine (markDel gC m n f b _ hE.hC hE.hM (by omega) hzs hb).mono ?_; rintro e w5 ⟨rfl, hM5, hk5⟩))
              go_meet
              case rel => exact ⟨rfl, (hE.put hM5 hk5).mono (by omega), Keep.grown hk5⟩
          have d1b : (dv == 1) = false := by simp [d1]
          by_cases d2 : dv = 2
          · subst d2
            obtain rfl : (⟨f b == some false, false, false, 0⟩ : S30) = x := by rw [← hx]; rfl
            obtain rfl : f = f' := by rw [← hf']; rfl
            have hA0 := cellH hE.hA 0 _ rfl
            have hA1 := frozenH hE.hA 0
            go_wp2_with (go_at_call 18; go_must (refine (isDel gC m n f b _ hE.hC hE.hM hzs).mono ?_; rintro e w5 ⟨rfl, rfl⟩))
            go_meet
            case rel => exact ⟨rfl, (hE.set 0 (.bool (f b == some false)) (by omega) (f b == some false) false false 0 rfl).mono (by omega), Keep.setCell _ _ _ _ _⟩
          have d2b : (dv == 2) = false := by simp [d2]
          by_cases d3 : dv = 3
          · subst d3
            have hx' : x = ⟨false, (crF f b good asks found fails).2.1, (crF f b good asks found fails).2.2.1, (crF f b good asks found fails).2.2.2⟩ := by rw [← hx]; rfl
            have hf'' : f' = (crF f b good asks found fails).1 := by rw [← hf']; rfl
            subst hx' hf''
            by_cases hb : b = ⟨#[]⟩
            · subst hb
              have hcr : crF f ⟨#[]⟩ good asks found fails = (f, false, false, 0) := by simp [crF]
              go_wp2_with (go_at_call 19; go_must (refine (cr_nil hE rfl).mono ?_; rintro e w5 ⟨rfl, rfl⟩))
              go_meet
              case rel => rw [hcr]; exact ⟨rfl, hE.mono (by omega), hkr _⟩
            cases hfb : f b with
            | none =>
              have hcr : crF f b good asks found fails = if good then (upd f b true, true, false, 0) else (f, true, false, 1) := by simp [crF, hb, hfb]
              have hct := cr_act hE hb hzs hn9 (.inl hfb)
              cases good with
              | true =>
                simp only [if_true] at hct
                go_wp2_with (go_at_call 19; go_must (refine hct.mono ?_; rintro e w5 ⟨rfl, hE5, hk5⟩))
                go_meet
                case rel => rw [hcr]; exact ⟨rfl, hE5, hk5⟩
              | false =>
                simp only [Bool.false_eq_true, if_false] at hct
                go_wp2_with (go_at_call 19; go_must (refine hct.mono ?_; rintro e w5 ⟨rfl, hE5, hk5⟩))
                go_meet
                case rel => rw [hcr]; exact ⟨rfl, hE5, hk5⟩
            | some v =>
              cases v with
              | true =>
                have hcr : crF f b good asks found fails = (f, false, false, 0) := by simp [crF, hb, hfb]
                go_wp2_with (go_at_call 19; go_must (refine (cr_true hE hb hzs hfb).mono ?_; rintro e w5 ⟨rfl, rfl⟩))
                go_meet
                case rel => rw [hcr]; exact ⟨rfl, hE.mono (by omega), hkr _⟩
              | false =>
                cases asks with
                | false =>
                  have hcr : crF f b good false found fails = if good then (upd f b true, true, false, 0) else (f, true, false, 1) := by simp [crF, hb, hfb]
                  have hct := cr_act hE hb hzs hn9 (.inr ⟨hfb, rfl⟩)
                  cases good with
                  | true =>
                    simp only [if_true] at hct
                    go_wp2_with (go_at_call 19; go_must (refine hct.mono ?_; rintro e w5 ⟨rfl, hE5, hk5⟩))
                    go_meet
                    case rel => rw [hcr]; exact ⟨rfl, hE5, hk5⟩
                  | false =>
                    simp only [Bool.false_eq_true, if_false] at hct
                    go_wp2_with (go_at_call 19; go_must (refine hct.mono ?_; rintro e w5 ⟨rfl, hE5, hk5⟩))
                    go_meet
                    case rel => rw [hcr]; exact ⟨rfl, hE5, hk5⟩
                | true =>
                  have hct := cr_ask hE hb hzs hn9 hfb
                  obtain ⟨v9, hv9⟩ : ∃ v9, (if fails = true then ev g2 else if found = true then .nilIface else if good = true then .nilIface else ev g1) = v9 := ⟨_, rfl⟩
                  rw [hv9] at hct
                  go_wp2_with (go_at_call 19; go_must (refine hct.mono ?_; rintro e w5 ⟨rfl, hE5, hk5⟩))
                  go_meet
                  case rel =>
                    have hcr : crF f b good true found fails = if fails then (f, false, true, 2) else if found then (upd f b true, false, true, 0) else if good then (upd (upd f b false) b true, true, true, 0) else (upd f b false, true, true, 1) := by simp [crF, hb, hfb]
                    rw [hcr]
                    subst hv9
                    cases fails <;> cases found <;> cases good <;> exact ⟨rfl, hE5, hk5⟩
          have d3b : (dv == 3) = false := by simp [d3]
          by_cases d4 : dv = 4
          · subst d4
            by_cases hb : b = ⟨#[]⟩
            · subst hb
              obtain rfl : z30 = x := by rw [← hx]; simp [stepB]
              obtain rfl : f = f' := by rw [← hf']; simp [stepB]
              go_wp2_with (go_at_call 20; go_must (refine (rm_nil rfl).mono ?_; rintro e w5 ⟨rfl, rfl⟩))
              go_meet
              case rel => exact ⟨rfl, hE.mono (by omega), hkr _⟩
            by_cases hfb : f b = some false
            · obtain rfl : (⟨false, false, false, 3⟩ : S30) = x := by rw [← hx]; simp [stepB, hb, hfb]
              obtain rfl : f = f' := by rw [← hf']; simp [stepB, hb, hfb]
              have hl5 : W2.cell? ⟨0, 0, none⟩ = some (evA a0) := (hLp.bel.trans (hW0.mono hLp.bel.size)).cell (p := ⟨0, 0, none⟩) hLp.ord.1 |>.trans hL
              go_wp2_with (go_at_call 20; go_must (refine (rm_gone hE hb hzs hfb hl5).mono ?_; rintro e w5 ⟨rfl, rfl⟩))
              go_meet
              case rel => exact ⟨rfl, hE.mono (by omega), hkr _⟩
            · have hct := rm_act hE hb hzs hn9 hfb
              cases good with
              | true =>
                obtain rfl : (⟨false, true, false, 0⟩ : S30) = x := by rw [← hx]; simp [stepB, hb, hfb]
                obtain rfl : upd f b false = f' := by rw [← hf']; simp [stepB, hb, hfb]
                simp only [if_true] at hct
                go_wp2_with (go_at_call 20; go_must (refine hct.mono ?_; rintro e w5 ⟨rfl, hE5, hk5⟩))
                go_meet
                case rel => exact ⟨rfl, hE5, hk5⟩
              | false =>
                obtain rfl : (⟨false, true, false, 1⟩ : S30) = x := by rw [← hx]; simp [stepB, hb, hfb]
                obtain rfl : f = f' := by rw [← hf']; simp [stepB, hb, hfb]
                simp only [Bool.false_eq_true, if_false] at hct
                go_wp2_with (go_at_call 20; go_must (refine hct.mono ?_; rintro e w5 ⟨rfl, hE5, hk5⟩))
                go_meet
                case rel => exact ⟨rfl, hE5, hk5⟩
          have d4b : (dv == 4) = false := by simp [d4]
          obtain rfl : z30 = x := by rw [← hx]; simp [stepB, d0, d1, d2, d3, d4]
          obtain rfl : f = f' := by rw [← hf']; simp [stepB, d0, d1, d2, d3, d4]
          go_wp2_with fail
          go_meet
          case rel => exact ⟨rfl, hE.mono (by omega), hkr _⟩
        case rest =>
          obtain ⟨rfl, hE6, hk6⟩ := hcut
          have hkm : ∀ g, g < wr.heap.size → g ≠ m → wc.heap[g]? = wr.heap[g]? := fun g h1 h2 => (hk6.block g (Nat.lt_of_lt_of_le h1 hW0.size) (by omega) h2).trans (hW0.block g h1)
          have bel6 : Below w.heap.size w wc := hk6.below (by have := hLp.bel.size; omega) hLp.ord.2.2.2.2.1 (hLp.bel.trans (hW0.mono hLp.bel.size)) (Nat.le_refl _)
          have e16 : ErrAt wc g1 := hLp.e1.kept (hkm _ hLp.e1.lt (by obtain ⟨c1, h1⟩ := hLp.e1; exact neM hLp.hM h1))
          have e26 : ErrAt wc g2 := hLp.e2.kept (hkm _ hLp.e2.lt (by obtain ⟨c1, h1⟩ := hLp.e2; exact neM hLp.hM h1))
          have e06 : ErrAny wc a0.block := hG.kept (bel6.block _ hLp.ord.2.1)
          have own6 : wc.ownsRow w.heap.size 30 4 u6 i (flat30 acc) := own_move hown (fun k hk => hkm k (own_lt hown k hk) (own_neM hown hLp.hM k hk))
          have l06 : wc.cell? ⟨0, 0, none⟩ = some (evA a0) := (bel6.cell (p := ⟨0, 0, none⟩) hLp.ord.1).trans hL
          have c40 := cellH hE6.h4 0 _ rfl
          have c50 := cellH hE6.h5 0 _ rfl
          have a30 := cellH hE6.hA 3 _ rfl
          have a31 := frozenH hE6.hA 3
          simp only [List.getElem_toArray, List.getElem_cons_succ, List.getElem_cons_zero] at c40 c50 a30
          obtain ⟨i0, hi0, hz0, hz1, hz2⟩ := info_parts info30
          have hx3 := step_err f ⟨dv, b, good, asks, found, fails⟩
          rw [hx] at hx3
          rw [hx, hf'] at hH2
          obtain ⟨x0, x1, x2, er⟩ := x
          simp only at hx3 hE6 ⊢
          have hE7 := hE6.set 3 (.int .i64 er) (by omega) x0 x1 x2 er rfl
          have own7 : (wc.setCell ⟨S + 1, 3, none⟩ (.int .i64 er)).ownsRow w.heap.size 30 4 u6 i (flat30 acc) := own_move own6 (fun k hk => Below.heap_setCell _ _ _ _ (by have := own_lt hown k hk; show k ≠ S + 1; omega))
          have s0 := cellH hE7.hA 0 _ rfl
          have s1 := cellH hE7.hA 1 _ rfl
          have s2 := cellH hE7.hA 2 _ rfl
          have s3 := cellH hE7.hA 3 _ rfl
          simp only [List.getElem_toArray, List.getElem_cons_succ, List.getElem_cons_zero] at s0 s1 s2 s3
          have kk := Keep.setCell (S + 1) m 3 wc (.int .i64 er)
          have bel7 : Below w.heap.size w (wc.setCell ⟨S + 1, 3, none⟩ (.int .i64 er)) := kk.below (by have := hLp.bel.size; omega) hLp.ord.2.2.2.2.1 bel6 (Nat.le_refl _)
          have e17 : ErrAt (wc.setCell ⟨S + 1, 3, none⟩ (.int .i64 er)) g1 := e16.kept (Below.heap_setCell _ _ _ _ (by have := hLp.e1.lt; show g1 ≠ S + 1; omega))
          have e27 : ErrAt (wc.setCell ⟨S + 1, 3, none⟩ (.int .i64 er)) g2 := e26.kept (Below.heap_setCell _ _ _ _ (by have := hLp.e2.lt; show g2 ≠ S + 1; omega))
          have hsz : (wc.setCell ⟨S + 1, 3, none⟩ (.int .i64 er)).heap.size = wc.heap.size := by simp
          have c4 : ∀ j q, [Value.bool x0, .bool x1, .bool x2, .int .i64 er][j]? = some q → ((wc.setCell ⟨S + 1, 3, none⟩ (.int .i64 er)).alloc (.cells #[.bool x0, .bool x1, .bool x2, .int .i64 er] 30)).cell? ((⟨wc.heap.size, 0, none⟩ : Addr).add j) = some q := by
            intro j q hq
            have h := cells_four (wc.setCell ⟨S + 1, 3, none⟩ (.int .i64 er)) (.bool x0) (.bool x1) (.bool x2) (.int .i64 er) 30 j q hq
            rw [hsz] at h
            exact h
          obtain ⟨g', rfl⟩ : ∃ g', gk = g' + 1 := ⟨gk - 1, by omega⟩
          have ne12 : g1 ≠ g2 := by have := hLp.ord.2.2.2.1; omega
          have ne01 : a0 ≠ ⟨g1, 0, none⟩ := fun e => by have h1 := congrArg Addr.block e; simp only at h1; have := hLp.ord; omega
          have ne02 : a0 ≠ ⟨g2, 0, none⟩ := fun e => by have h1 := congrArg Addr.block e; simp only at h1; have := hLp.ord; omega
          rcases hx3 with rfl | rfl | rfl | rfl
          · rw [show errX a0 g1 g2 0 = .nilIface from rfl]
            go_wp2_with (at_builtin; go_must (refine wpList_append_own _ rfl (.tmp 79) (.tmp 81) 25 rfl w.heap.size 30 i0 (.agg #[.bool false, .bool false, .bool false, .int .i64 0]) 4 16 Tryd.underlying25 hi0 hz0 hz1 hz2 rfl (by decide) _ _ _ rfl (own7.alloc _) ⟨wc.heap.size, 0, none⟩ 1 1 [.bool x0, .bool x1, .bool x2, .int .i64 0] rfl rfl c4 (by intro u hu; simp at hu; rcases hu with rfl | rfl | rfl | rfl <;> rfl) (by unfold maxLen; omega) (by omega) (Nat.le_trans bel7.size (by simp)) ?_; intro v8 w8 hown8 hg8 hnil8))
            have hLp8 := loop_after hE7 bel7 e17 e27 own7 hg8 hLp.ord
            go_roundg g'
            case measure => omega
            case rel => exact ⟨i + 1, n + 2, f', acc ++ [⟨x0, x1, x2, 0⟩], by go_num, by omega, by omega, by omega, by simp; omega, by rw [flat_snoc]; exact hown8, hLp8, hH2⟩
          · have q1 := ev_nil g1 wc
            have q2 := ev_same g1 wc
            rw [show errX a0 g1 g2 1 = .iface 56 (.pointer (some ⟨g1, 0, none⟩)) from rfl]
            unfold ev at q1 q2 c40
            go_wp2_with (at_builtin; go_must (refine wpList_append_own _ rfl (.tmp 79) (.tmp 81) 25 rfl w.heap.size 30 i0 (.agg #[.bool false, .bool false, .bool false, .int .i64 0]) 4 16 Tryd.underlying25 hi0 hz0 hz1 hz2 rfl (by decide) _ _ _ rfl (own7.alloc _) ⟨wc.heap.size, 0, none⟩ 1 1 [.bool x0, .bool x1, .bool x2, .int .i64 1] rfl rfl c4 (by intro u hu; simp at hu; rcases hu with rfl | rfl | rfl | rfl <;> rfl) (by unfold maxLen; omega) (by omega) (Nat.le_trans bel7.size (by simp)) ?_; intro v8 w8 hown8 hg8 hnil8))
            have hLp8 := loop_after hE7 bel7 e17 e27 own7 hg8 hLp.ord
            go_roundg g'
            case measure => omega
            case rel => exact ⟨i + 1, n + 2, f', acc ++ [⟨x0, x1, x2, 1⟩], by go_num, by omega, by omega, by omega, by simp; omega, by rw [flat_snoc]; exact hown8, hLp8, hH2⟩
          · have q1 := ev_nil g2 wc
            have q2 := ev_other ne12.symm e26 e16
            have q3 := ev_same g2 wc
            rw [show errX a0 g1 g2 2 = .iface 56 (.pointer (some ⟨g2, 0, none⟩)) from rfl]
            unfold ev at q1 q2 q3 c40 c50
            go_wp2_with (at_builtin; go_must (refine wpList_append_own _ rfl (.tmp 79) (.tmp 81) 25 rfl w.heap.size 30 i0 (.agg #[.bool false, .bool false, .bool false, .int .i64 0]) 4 16 Tryd.underlying25 hi0 hz0 hz1 hz2 rfl (by decide) _ _ _ rfl (own7.alloc _) ⟨wc.heap.size, 0, none⟩ 1 1 [.bool x0, .bool x1, .bool x2, .int .i64 2] rfl rfl c4 (by intro u hu; simp at hu; rcases hu with rfl | rfl | rfl | rfl <;> rfl) (by unfold maxLen; omega) (by omega) (Nat.le_trans bel7.size (by simp)) ?_; intro v8 w8 hown8 hg8 hnil8))
            have hLp8 := loop_after hE7 bel7 e17 e27 own7 hg8 hLp.ord
            go_roundg g'
            case measure => omega
            case rel => exact ⟨i + 1, n + 2, f', acc ++ [⟨x0, x1, x2, 2⟩], by go_num, by omega, by omega, by omega, by simp; omega, by rw [flat_snoc]; exact hown8, hLp8, hH2⟩
          · have q1 := evA_nil a0 wc
            have q2 := evA_other ne01 e06 e16
            have q3 := evA_other ne02 e06 e26
            have q4 := evA_same a0 wc
            rw [show errX a0 g1 g2 3 = .iface 56 (.pointer (some a0)) from rfl]
            unfold evA at q1 q2 q3 q4 l06
            unfold ev at q2 q3 c40 c50
            go_wp2_with (at_builtin; go_must (refine wpList_append_own _ rfl (.tmp 79) (.tmp 81) 25 rfl w.heap.size 30 i0 (.agg #[.bool false, .bool false, .bool false, .int .i64 0]) 4 16 Tryd.underlying25 hi0 hz0 hz1 hz2 rfl (by decide) _ _ _ rfl (own7.alloc _) ⟨wc.heap.size, 0, none⟩ 1 1 [.bool x0, .bool x1, .bool x2, .int .i64 3] rfl rfl c4 (by intro u hu; simp at hu; rcases hu with rfl | rfl | rfl | rfl <;> rfl) (by unfold maxLen; omega) (by omega) (Nat.le_trans bel7.size (by simp)) ?_; intro v8 w8 hown8 hg8 hnil8))
            have hLp8 := loop_after hE7 bel7 e17 e27 own7 hg8 hLp.ord
            go_roundg g'
            case measure => omega
            case rel => exact ⟨i + 1, n + 2, f', acc ++ [⟨x0, x1, x2, 3⟩], by go_num, by omega, by omega, by omega, by simp; omega, by rw [flat_snoc]; exact hown8, hLp8, hH2⟩
    · have hil : i = l.length := by omega
      have hlt' : ¬ ((i : Int) < (l.length : Int)) := by omega
      have hfin : acc = runB (fun _ => none) l := by
        have := hH.out
        rw [List.drop_eq_nil_of_le (by omega)] at this
        simpa [runB] using this
      rw [hfin] at hown
      clear hfin hH
      go_wp2
      go_ret
      refine ⟨_, rfl, ?_, hLp.bel⟩
      rw [← hil]
      exact hown

/-- The variable ErrAlreadyDeleted holds an error. -/
def LaidE (w : World) : Prop := ∃ a0 : Addr, ErrAny w a0.block ∧ w.cell? ⟨0, 0, none⟩ = some (evA a0)
theorem LaidE.below {w w' : World} (h : LaidE w) (hb : Below w.heap.size w w') : LaidE w' := by
  obtain ⟨a0, h1, h2⟩ := h
  have hw0 : 0 < w.heap.size := by
    rcases Nat.eq_zero_or_pos w.heap.size with h0 | h0
    · have hn : w.heap[0]? = none := Array.getElem?_eq_none (by omega)
      simp [World.cell?, hn] at h2
    · exact h0
  exact ⟨a0, h1.kept (hb.block _ h1.lt), (hb.cell (p := ⟨0, 0, none⟩) hw0).trans h2⟩
theorem reps30 (w : World) (base : Nat) (ok : Nat → Prop) : ∀ l : List S30, Reps (k30.M w base ok) 4 l (flat30 l)
  | [] => Reps.none _ _
  | x :: l => by
    have h := Reps.c4 (k30_mkM w base ok x) (reps30 w base ok l)
    exact h
theorem runB_length : ∀ (l : List S28) (f : ByteArray → Option Bool), (runB f l).length = l.length
  | [], _ => rfl
  | s :: l, f => by
    unfold runB
    rw [List.length_cons, List.length_cons, runB_length l]
theorem impl_BucketSteps.calls (A0 : Option Addr) (c : Nat) (l : List S28) (r : List S30) (w : World) (hL : LaidE w) (hr : Kd.C k28 w A0 l.length l) (hc : l.length ≤ c) (h : impl_BucketSteps.f l = some r) :
    Calls Tryd.prog 8 #[.slice A0 l.length c] w fun e w' => ∃ v, e = .returned v ∧ Kd.R k30 30 w' w.heap.size (fun _ => True) v r ∧ Below w.heap.size w w' := by
  obtain ⟨a0, hG, h0⟩ := hL
  unfold impl_BucketSteps.f at h
  split at h
  · rename_i hq
    obtain ⟨h1, h2⟩ := hq
    obtain rfl := Option.some.inj h
    have hz : ∀ s ∈ l, s.f1.size ≤ 1000000 := fun s hs => of_decide_eq_true (List.all_eq_true.1 h2 s hs)
    refine (steps_any A0 c l w hr hc h1 hz a0 hG h0).mono ?_
    rintro e w' ⟨v, rfl, ho, hb⟩
    refine ⟨v, rfl, ⟨fun _ _ => trivial, flat30 (runB (fun _ => none) l), ?_, reps30 _ _ _ _⟩, hb⟩
    rw [runB_length]
    exact ho
  · cases h
end Go.Proofs.YtcomnkbkkpeilaaDoor.Given
