/- The contract of impl.DirSteps: what each step answers, by two functions, from paths to IDs and back; up to 1000 steps, over texts of at most 1,000,000 bytes. -/
import Derived.Test.YtkdmdoflfaldiaaFm
import Derived.Laws.AppendOwn
import Derived.Maps.AppendAt
import Derived.Deep.DeepCutAuto
import Derived.Deep.CutBlock
namespace Go.Proofs.Ytkdmdoflfaldiaa.Given
open Go.RowKit Go.WideMaps Go.Maps Go.Proofs.YtkdmdoflfaldiaaW.PrintWords Go.Proofs.Ytkdmdoflfaldiaa.PD
set_option linter.unusedVariables false
set_option linter.unusedSimpArgs false

abbrev St := Fs × Fs
def ansD (o : Option ByteArray) : S40 := ⟨o.getD ⟨#[]⟩, o.isSome⟩
noncomputable def stepD (id : ByteArray) (st : St) (s : S34) : St × S40 :=
  if s.f0 = 0 then ((upd st.1 s.f1 s.f2, upd st.2 s.f2 s.f1), ansD none)
  else if s.f0 = 1 then (st, ansD (st.1 s.f1))
  else if s.f0 = 2 then (st, ansD (st.2 s.f2))
  else if s.f0 = 3 then (if s.f1 = ⟨#[]⟩ then (rootF id, rootG id) else (flF st.1 s.f1, flG st.1 st.2 s.f1), ansD none)
  else if s.f0 = 4 then ((emp, emp), ansD none)
  else ((rootF id, rootG id), ansD none)
noncomputable def runD (id : ByteArray) : St → List S34 → List S40
  | _, [] => []
  | st, s :: l => (stepD id st s).2 :: runD id (stepD id st s).1 l
theorem runD_length (id : ByteArray) : ∀ (l : List S34) (st : St), (runD id st l).length = l.length
  | [], _ => rfl
  | s :: l, st => by simp [runD, runD_length id l]

def cells40 (x : S40) : List Value := [.string x.f0, .bool x.f1]
def flat40 (l : List S40) : List Value := (l.map cells40).flatten
theorem flat_snoc (acc : List S40) (x : S40) : flat40 (acc ++ [x]) = flat40 acc ++ cells40 x := by simp [flat40]
theorem cells_two (w : World) (x y : Value) (t : TypeId) : ∀ j q, [x, y][j]? = some q → (w.alloc (.cells #[x, y] t)).cell? ((⟨w.heap.size, 0, none⟩ : Addr).add j) = some q := by
  intro j q hq
  have hj : j < 2 := (List.getElem?_eq_some_iff.1 hq).1
  rcases j with _ | _ | j
  · simp at hq; subst hq; simp [Addr.add]
  · simp at hq; subst hq; simp [Addr.add]
  · omega
theorem reps40 (w : World) (base : Nat) (ok : Nat → Prop) : ∀ l : List S40, Reps (k40.M w base ok) 2 l (flat40 l)
  | [] => Reps.none _ _
  | x :: l => by
    have h := Reps.c2 (k40_mkM w base ok x) (reps40 w base ok l)
    exact h
theorem rowA {w : World} {base : Nat} {v : Value} {l : List S40} (h : w.ownsRow base 40 2 v l.length (flat40 l)) : Kd.R k40 40 w base (fun _ => True) v l := ⟨fun _ _ => trivial, flat40 l, h, reps40 _ _ _ _⟩

set_option maxHeartbeats 1000000 in
theorem fdir_root (d : Nat) (id : ByteArray) (hid : id.size ≤ 1000000) (w : World) (h : Box w d id) :
    Calls Try.prog 23 #[.pointer (some ⟨d, 0, none⟩), .string ⟨#[]⟩] w fun e w' => e = .returned (.tuple #[]) ∧ ∃ p q, w.heap.size ≤ p ∧ w.heap.size ≤ q ∧ Dir w' d p q 1 id (rootF id) (rootG id) ∧ Keep (fun k => k ≠ d) w w' := by
  have e1 : (⟨#[]⟩ : ByteArray).toList.isEmpty = true := by rw [ByteArray.toList_eq]; rfl
  go_enter Try.func23, Try.ntmps23
  go_wp2_with (first
    | (go_at_call 25; go_must (refine (reset_any d id hid _ h).mono ?_; rintro e w2 ⟨rfl, hh⟩)))
  refine bodyPost_ret (results_none rfl _ _ _) rfl ?_
  exact ⟨rfl, hh⟩
theorem info40 : (Try.prog.info? 40).map (fun i => (i.zero, i.size, i.bytes)) = some (some (.agg #[.string ⟨#[]⟩, .bool false]), 2, 24) := by kernel_rfl
theorem own_neM {w : World} {base : Nat} {e : TypeId} {size n m k : Nat} {f : Fs} {v : Value} {xs : List Value} (h : w.ownsRow base e size v n xs) (hM : MapOf w m k f) : ∀ g, v.ownBlock = some g → g ≠ m := by
  intro g hg
  rcases h.2 with ⟨rfl, _⟩ | ⟨g', cap, cur, rfl, _, hh, _⟩
  · cases hg
  · cases hg
    exact neM hM hh

/-- What lies in a step's world: the cache, the answer's cells at block a, and all else but the cache's blocks. -/
structure Aft (W w : World) (S d p q B n : Nat) (id : ByteArray) (f g : Fs) (x : S40) (p' q' n' : Nat) : Prop where
  dir : Dir w d p' q' n' id f g
  ans : w.heap[S + 1]? = some (.cells #[.string x.f0, .bool x.f1] 40 (0, 0))
  bp : B ≤ p'
  bq : B ≤ q'
  bn : n' ≤ n + 1
  kp : Keep (fun k => k < S ∧ But d p q k) W w
theorem keepS {W w : World} {S d p q : Nat} (h : Keep (But d p q) W w) : Keep (fun k => k < S ∧ But d p q k) W w := h.mono (fun k _ h => h.2)
theorem keepB {W w : World} {S d p q : Nat} (h : Keep (fun k => k ≠ d) W w) : Keep (fun k => k < S ∧ But d p q k) W w := h.mono (fun k _ h => h.2.1)

set_option maxHeartbeats 4000000 in
set_option maxRecDepth 100000 in
theorem dsteps_any (root id : ByteArray) (A0 : Option Addr) (c : Nat) (l : List S34) (w : World) (hr : Kd.C k34 w A0 l.length l) (hc : l.length ≤ c) (hl : l.length ≤ 1000) (hid : id.size ≤ 1000000)
    (hz : ∀ s ∈ l, s.f1.size ≤ 1000000 ∧ s.f2.size ≤ 1000000 ∧ 0 ≤ s.f0 ∧ s.f0 ≤ 5) :
    Calls Try.prog 12 #[.string root, .string id, .slice A0 l.length c] w fun e w' => ∃ v, e = .returned v ∧ w'.ownsRow w.heap.size 40 2 v l.length (flat40 (runD id (rootF id, rootG id) l)) ∧ Below w.heap.size w w' := by
  go_enter Try.func12, Try.ntmps12
  go_wp2_with (first
    | (go_at_call 19; go_must (refine (new_any root id hid _).mono ?_; rintro e w1 ⟨d, p1, q1, rfl, hd1, hp1, hq1, hD1, hb1⟩)))
  go_loopg [8, 17] l.length (fun gf s8 s17 wx => ∃ (i n p q : Nat) (st : St) (acc : List S40), s17 = .int .i64 i ∧ i ≤ l.length ∧ l.length ≤ i + gf ∧ n ≤ i + 1 ∧ acc.length = i ∧ wx.ownsRow w.heap.size 40 2 s8 i (flat40 acc) ∧
    Dir wx d p q n id st.1 st.2 ∧ w.heap.size ≤ p ∧ w.heap.size ≤ q ∧ Below w.heap.size w wx ∧ Hid (acc ++ runD id st (l.drop i) = runD id (rootF id, rootG id) l))
  case atStart => exact ⟨0, 1, p1, q1, (rootF id, rootG id), [], rfl, Nat.zero_le _, by omega, Nat.le_refl _, rfl, own_nil _ _ _ _, hD1, hp1, hq1, hb1, Lib.hid (by simp)⟩
  case round =>
    clear hD1 hp1 hq1 hb1
    obtain ⟨i, n, p, q, st, acc, rfl, hi, hfu, hn, hal, hown, hD, hp, hq, hbel, hH⟩ := hrel
    by_cases hlt : i < l.length
    · have hC1 := Kd.C_below hr hbel
      obtain ⟨ad, hA0, x0, x1, x2⟩ := at_T34 hC1 (i : Int) (by omega) (by omega)
      obtain ⟨s, hs⟩ : ∃ s, rd_T34 l (i : Int) = s := ⟨_, rfl⟩
      have hsl : l[i] = s := by rw [← hs]; simp [rd_T34, hlt]
      have hzs := hz _ (List.getElem_mem hlt)
      rw [hsl] at hzs
      have hH2 : Hid (acc ++ [(stepD id st s).2] ++ runD id (stepD id st s).1 (l.drop (i + 1)) = runD id (rootF id, rootG id) l) := Lib.hid (by rw [← hH.out, List.drop_eq_getElem_cons hlt, hsl, List.append_assoc]; rfl)
      clear hH
      rw [hs] at x0 x1 x2
      simp only [Int.toNat_natCast] at x0 x1 x2
      subst hA0
      clear hsl hs
      obtain ⟨dv, a, b⟩ := s
      simp only at x0 x1 x2 hzs
      obtain ⟨za, zb, z0, z5⟩ := hzs
      obtain ⟨S, hS⟩ : ∃ S, wr.heap.size = S := ⟨_, rfl⟩
      have hB := hbel.size
      obtain ⟨ld, lp, lq⟩ := hD.lt
      rw [hS] at ld lp lq hB
      have b2 : Below wr.heap.size wr ((wr.alloc (.cells #[.int .i64 dv, .string a, .string b] 34)).alloc (.cells #[.string ⟨#[]⟩, .bool false] 40)) := ((Below.refl _ _).alloc (Nat.le_refl _) _).alloc (by simp) _
      have hq1 := (MapKept.heap_alloc wr (.cells #[.int .i64 dv, .string a, .string b] 34)).1
      have z1 : (wr.alloc (.cells #[.int .i64 dv, .string a, .string b] 34)).heap.size = S + 1 := by simp [hS]
      have hqs := (Below.heap_alloc (wr.alloc (.cells #[.int .i64 dv, .string a, .string b] 34)) (.cells #[.string ⟨#[]⟩, .bool false] 40) wr.heap.size (by simp)).trans hq1
      have hqa := (MapKept.heap_alloc (wr.alloc (.cells #[.int .i64 dv, .string a, .string b] 34)) (.cells #[.string ⟨#[]⟩, .bool false] 40)).1
      rw [z1] at hqa
      rw [hS] at hqs
      clear hq1 z1
      go_upto_block 2 with fail
      obtain ⟨W2, hW2⟩ : ∃ W2, ((wr.alloc (.cells #[.int .i64 dv, .string a, .string b] 34)).alloc (.cells #[.string ⟨#[]⟩, .bool false] 40)) = W2 := ⟨_, rfl⟩
      rw [hW2] at b2 hqs hqa
      rw [hW2]
      clear hW2 x0 x1 x2
      have hD2 : Dir W2 d p q n id st.1 st.2 := hD.kept (fun k hk _ => b2.block k hk)
      have s1 := cellH hqs 1 _ rfl
      have s2 := cellH hqs 2 _ rfl
      have y0 := cellH hqa 0 _ rfl
      have y1 := cellH hqa 1 _ rfl
      have u0 := frozenH hqa 0
      have u1 := frozenH hqa 1
      simp only [List.getElem_toArray, List.getElem_cons_succ, List.getElem_cons_zero] at s1 s2 y0 y1
      have lA := ltH hqa
      obtain ⟨x, hx⟩ : ∃ x, (stepD id st ⟨dv, a, b⟩).2 = x := ⟨_, rfl⟩
      obtain ⟨st', hst'⟩ : ∃ st', (stepD id st ⟨dv, a, b⟩).1 = st' := ⟨_, rfl⟩
      rw [hx, hst'] at hH2
      go_cut [7] (fun v7 wx => v7 = .pointer (some ⟨d, 0, none⟩) ∧ ∃ p' q' n', Aft W2 wx S d p q w.heap.size n id st'.1 st'.2 x p' q' n')
      case first =>
        have hn9 : n ≤ 1000000 := by omega
        have getC : ∀ (o : Option ByteArray), Aft W2 ((W2.setCell ⟨S + 1, 0, none⟩ (.string (o.getD ⟨#[]⟩))).setCell ⟨S + 1, 1, none⟩ (.bool o.isSome)) S d p q w.heap.size n id st.1 st.2 (ansD o) p q n := by
          intro o
          have g1 := setH hqa 0 (.string (o.getD ⟨#[]⟩)) (by simp)
          have g2 := setH g1 1 (.bool o.isSome) (by simp)
          have e : ∀ k, k ≠ S + 1 → ((W2.setCell ⟨S + 1, 0, none⟩ (.string (o.getD ⟨#[]⟩))).setCell ⟨S + 1, 1, none⟩ (.bool o.isSome)).heap[k]? = W2.heap[k]? := fun k hk => (Below.heap_setCell _ _ _ k hk).trans (Below.heap_setCell _ _ _ k hk)
          refine ⟨hD2.kept (fun k _ hk => e k (by omega)), g2, hp, hq, by omega, ?_⟩
          exact (Keep.setCell _ _ _ (fun k => by have := k.1; simp at this; omega)).trans (Keep.setCell _ _ _ (fun k => by have := k.1; simp at this; omega))
        have kpA : ∀ (wx : World) (p' q' n' : Nat) (f g : Fs), Dir wx d p' q' n' id f g → w.heap.size ≤ p' → w.heap.size ≤ q' → n' ≤ n + 1 → Keep (fun k => k ≠ d ∧ k ≠ p ∧ k ≠ q) W2 wx → Aft W2 wx S d p q w.heap.size n id f g (ansD none) p' q' n' :=
          fun wx p' q' n' f g h1 h2 h3 h4 h5 => ⟨h1, (h5.block (S + 1) lA ⟨by omega, by omega, by omega⟩).trans hqa, h2, h3, h4, h5.mono (fun k _ h => h.2)⟩
        have kpB : ∀ (wx : World) (p' q' n' : Nat) (f g : Fs), Dir wx d p' q' n' id f g → W2.heap.size ≤ p' → W2.heap.size ≤ q' → n' ≤ n + 1 → Keep (fun k => k ≠ d) W2 wx → Aft W2 wx S d p q w.heap.size n id f g (ansD none) p' q' n' :=
          fun wx p' q' n' f g h1 h2 h3 h4 h5 => kpA wx p' q' n' f g h1 (by have := b2.size; rw [hS] at this; omega) (by have := b2.size; rw [hS] at this; omega) h4 (h5.mono (fun k _ h => h.1))
        by_cases d0 : dv = 0
        · subst d0
          obtain rfl : ansD none = x := by rw [← hx]; rfl
          obtain rfl : (upd st.1 a b, upd st.2 b a) = st' := by rw [← hst']; rfl
          go_wp2_with (go_at_call 20; go_must (refine (put_any d p q n id a b st.1 st.2 _ hD2 hn9 za zb).mono ?_; rintro e w5 ⟨rfl, hD5, hk5⟩))
          go_meet
          case rel => exact ⟨rfl, p, q, n + 1, kpA _ _ _ _ _ _ hD5 hp hq (Nat.le_refl _) hk5⟩
        have d0b : (dv == 0) = false := by simp [d0]
        by_cases d1 : dv = 1
        · subst d1
          obtain rfl : ansD (st.1 a) = x := by rw [← hx]; rfl
          obtain rfl : st = st' := by rw [← hst']; rfl
          go_wp2_with (go_at_call 21; go_must (refine (get_any d p q n id a st.1 st.2 _ hD2 za).mono ?_; rintro e w5 ⟨rfl, rfl⟩))
          go_meet
          case rel => exact ⟨rfl, p, q, n, getC _⟩
        have d1b : (dv == 1) = false := by simp [d1]
        by_cases d2 : dv = 2
        · subst d2
          obtain rfl : ansD (st.2 b) = x := by rw [← hx]; rfl
          obtain rfl : st = st' := by rw [← hst']; rfl
          go_wp2_with (go_at_call 22; go_must (refine (inv_any d p q n id b st.1 st.2 _ hD2 zb).mono ?_; rintro e w5 ⟨rfl, rfl⟩))
          go_meet
          case rel => exact ⟨rfl, p, q, n, getC _⟩
        have d2b : (dv == 2) = false := by simp [d2]
        by_cases d3 : dv = 3
        · subst d3
          obtain rfl : ansD none = x := by rw [← hx]; rfl
          by_cases ha : a = ⟨#[]⟩
          · subst ha
            obtain rfl : (rootF id, rootG id) = st' := by rw [← hst']; simp [stepD]
            go_wp2_with (go_at_call 23; go_must (refine (fdir_root d id hid _ hD2.box).mono ?_; rintro e w5 ⟨rfl, p', q', h1, h2, h3, h4⟩))
            go_meet
            case rel => exact ⟨rfl, p', q', 1, kpB _ _ _ _ _ _ h3 h1 h2 (by omega) h4⟩
          · obtain rfl : (flF st.1 a, flG st.1 st.2 a) = st' := by rw [← hst']; simp [stepD, ha]
            go_wp2_with (go_at_call 23; go_must (refine (fdir_any d p q n id a st.1 st.2 _ hD2 ha za).mono ?_; rintro e w5 ⟨rfl, hD5, hk5⟩))
            go_meet
            case rel => exact ⟨rfl, p, q, n, kpA _ _ _ _ _ _ hD5 hp hq (by omega) hk5⟩
        have d3b : (dv == 3) = false := by simp [d3]
        by_cases d4 : dv = 4
        · subst d4
          obtain rfl : ansD none = x := by rw [← hx]; rfl
          obtain rfl : (emp, emp) = st' := by rw [← hst']; rfl
          go_wp2_with (go_at_call 24; go_must (refine (flush_any d id _ hD2.box).mono ?_; rintro e w5 ⟨rfl, p', q', h1, h2, h3, h4⟩))
          go_meet
          case rel => exact ⟨rfl, p', q', 0, kpB _ _ _ _ _ _ h3 h1 h2 (by omega) h4⟩
        have d4b : (dv == 4) = false := by simp [d4]
        obtain rfl : dv = 5 := by omega
        obtain rfl : ansD none = x := by rw [← hx]; rfl
        obtain rfl : (rootF id, rootG id) = st' := by rw [← hst']; rfl
        go_wp2_with (go_at_call 25; go_must (refine (reset_any d id hid _ hD2.box).mono ?_; rintro e w5 ⟨rfl, p', q', h1, h2, h3, h4⟩))
        go_meet
        case rel => exact ⟨rfl, p', q', 1, kpB _ _ _ _ _ _ h3 h1 h2 (by omega) h4⟩
      case rest =>
        obtain ⟨rfl, p', q', n', hA⟩ := hcut
        have a0 := cellH hA.ans 0 _ rfl
        have a1 := cellH hA.ans 1 _ rfl
        simp only [List.getElem_toArray, List.getElem_cons_succ, List.getElem_cons_zero] at a0 a1
        have own6 := own_move (w1 := wc) hown (fun k hk => (hA.kp.block k (Nat.lt_of_lt_of_le (own_lt hown k hk) b2.size) ⟨by rw [← hS]; exact own_lt hown k hk, fun e => by obtain ⟨_, _, _, _, hcc⟩ := hD.hC; exact own_ne hown hcc (by decide) (by rw [hk, e]), own_neM hown hD.hP k hk, own_neM hown hD.hQ k hk⟩).trans (b2.block k (own_lt hown k hk)))
        have sz6 := hA.kp.size
        have sz2 := b2.size
        rw [hS] at sz2
        have bel6 : Below w.heap.size w wc := ⟨(hA.kp.os.trans b2.os).trans hbel.os, (hA.kp.tape.trans b2.tape).trans hbel.tape, (hA.kp.output.trans b2.output).trans hbel.output, by omega, fun k hk => ((hA.kp.block k (by omega) ⟨by omega, by omega, by omega, by omega⟩).trans (b2.block k (by rw [hS]; omega))).trans (hbel.block k hk)⟩
        obtain ⟨i0, hi0, iz0, iz1, iz2⟩ := info_parts info40
        clear hx hst' y0 y1 u0 u1 s1 s2 hqs hqa hD2 hown hC1
        obtain ⟨g', rfl⟩ : ∃ g', gk = g' + 1 := ⟨gk - 1, by omega⟩
        go_wp2_with (at_builtin; go_must (refine wpList_append_own _ rfl (.tmp 67) (.tmp 69) 35 rfl w.heap.size 40 i0 (.agg #[.string ⟨#[]⟩, .bool false]) 2 24 Try.underlying35 hi0 iz0 iz1 iz2 rfl (by decide) _ _ _ rfl (own6.alloc _) ⟨wc.heap.size, 0, none⟩ 1 1 [.string x.f0, .bool x.f1] rfl rfl (cells_two _ _ _ _) (by intro u hu; simp at hu; rcases hu with rfl | rfl <;> rfl) (by unfold maxLen; omega) (by omega) (Nat.le_trans bel6.size (by simp)) ?_; intro v8' w8 hown8 hg8 hnil8))
        have hD8 : Dir w8 d p' q' n' id st'.1 st'.2 := hA.dir.kept (fun k hk hk2 => by
          obtain ⟨_, _, _, _, hcc⟩ := hA.dir.hC
          refine (hg8.block k (by simp; omega) (fun e => ?_)).trans (Below.heap_alloc _ _ _ hk)
          rcases hk2 with rfl | rfl | rfl
          · exact own_ne own6 hcc (by decide) e
          · exact own_neM own6 hA.dir.hP _ e.symm rfl
          · exact own_neM own6 hA.dir.hQ _ e.symm rfl)
        have b8 : Below w.heap.size w w8 := (bel6.alloc bel6.size _).grown hg8 (by have := bel6.size; simp; omega) (fun j hj => own_base own6 j hj)
        have hbn := hA.bn
        go_roundg g'
        case measure => omega
        case rel => exact ⟨i + 1, n', p', q', st', acc ++ [x], by go_num, by omega, by omega, by omega, by simp; omega, by rw [flat_snoc]; exact hown8, hD8, hA.bp, hA.bq, b8, hH2⟩
    · have hil : i = l.length := by omega
      have hlt' : ¬ ((i : Int) < (l.length : Int)) := by omega
      have hfin : acc = runD id (rootF id, rootG id) l := by
        have := hH.out
        rw [List.drop_eq_nil_of_le (by omega)] at this
        simpa [runD] using this
      rw [hfin] at hown
      clear hfin hH
      go_wp2
      go_ret
      refine ⟨_, rfl, ?_, hbel⟩
      rw [← hil]
      exact hown
end Go.Proofs.Ytkdmdoflfaldiaa.Given
