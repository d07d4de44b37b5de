/- The walk of laws.FnBucketAsks: it returns true, for every list of steps, where the variable ErrAlreadyDeleted holds an error. -/
import Derived.Test.YtcomnkbkkpeilaaDoorPureA
import Derived.Deep.DeepCutAuto
import Derived.Deep.CutBlock
import Derived.Deep.RegionHeld3
import Derived.Deep.AppendLies
namespace Go.Proofs.YtcomnkbkkpeilaaDoor.Given
open Go.RowKit Go.WideMaps Go.Maps Go.Proofs.YtcomnkbkkpeilaaDoorW.PrintWords Go.Proofs.YtcomnkbkkpeilaaDoor.PA Go.Proofs.YtcomnkbkkpeilaaDoor.Pl
set_option linter.unusedVariables false
set_option linter.unusedSimpArgs false
attribute [local go_sem high] eqA30

def cells28 (s : S28) : List Value := [.int .i64 s.f0, .string s.f1, .bool s.f2, .bool s.f3, .bool s.f4, .bool s.f5]
def flat28 (l : List S28) : List Value := (l.map cells28).flatten

theorem reps28 (w : World) (base : Nat) (ok : Nat → Prop) : ∀ l : List S28, Reps (k28.M w base ok) 6 l (flat28 l)
  | [] => Reps.none _ _
  | x :: l => by
    have h := Reps.c6 (k28_mkM w base ok x) (reps28 w base ok l)
    exact h
theorem row28 {w : World} {base : Nat} {v : Value} {l : List S28} (h : w.ownsRow base 28 6 v l.length (flat28 l)) : Kd.R k28 28 w base (fun _ => True) v l := ⟨fun _ _ => trivial, flat28 l, h, reps28 _ _ _ _⟩
theorem row30 {w : World} {base : Nat} {v : Value} {l : List S30} (h : w.ownsRow base 30 4 v l.length (flat30 l)) : Kd.R k30 30 w base (fun _ => True) v l := ⟨fun _ _ => trivial, flat30 l, h, reps30 _ _ _ _⟩
theorem flat28_snoc (l : List S28) (x : S28) : flat28 (l ++ [x]) = flat28 l ++ cells28 x := by simp [flat28]
theorem selA_cons (s : S28) (l : List S28) (x : S30) (r : List S30) : selA (s :: l) (x :: r) = if keepB s then x :: selA l r else selA l r := rfl
theorem z30_at (f : ByteArray → Option Bool) : ∀ (l : List S28) (f : ByteArray → Option Bool), f ⟨#[]⟩ = none → ∀ (i : Nat) (h : i < l.length) (h' : i < (runB f l).length), (l[i]).f1 = ⟨#[]⟩ → (runB f l)[i] = z30
  | [], _, _, i, h, _, _ => by simp at h
  | s :: l, f, hf, 0, h, h', hb => step_zero f s hf hb
  | s :: l, f, hf, i + 1, h, h', hb => z30_at f l (stepB f s).1 (step_none f s hf) i (by simpa using h) (by simpa [runB] using h') (by simpa using hb)
theorem keep_nil (dv : Int) (a b c d : Bool) : keepB ⟨dv, ⟨#[]⟩, a, b, c, d⟩ = false := by
  have e1 : (⟨#[]⟩ : ByteArray).toList.isEmpty = true := by rw [ByteArray.toList_eq]; rfl
  unfold keepB
  simp [e1]
theorem keep_two (s : ByteArray) (a b c d : Bool) : keepB ⟨2, s, a, b, c, d⟩ = false := by
  unfold keepB
  simp
theorem keep_yes (dv : Int) (s : ByteArray) (a b c d : Bool) (h1 : s ≠ ⟨#[]⟩) (h2 : dv ≠ 2) : keepB ⟨dv, s, a, b, c, d⟩ = true := by
  unfold keepB
  simp [e_em h1, h2]

set_option maxHeartbeats 4000000 in
set_option maxRecDepth 100000 in
theorem asks_any (A0 : Option Addr) (c : Nat) (l : List S28) (w : World) (hL : LaidE w) (hr : Kd.C k28 w A0 l.length l) (hc : l.length ≤ c) :
    Calls Tryd.prog 3 #[.slice A0 l.length c] w fun e w' => e = .returned (.bool true) ∧ Below w.heap.size w w' := by
  obtain ⟨b1, hb1⟩ := fits_some l hr.2.1
  obtain ⟨b2, hb2, hq⟩ := in_some l hr.2.1
  cases b1 with
  | false =>
    go_enter Tryd.func3, Tryd.ntmps3
    go_wp2_with (go_at_call 5; go_must (refine (laws_zzFits1.calls _ A0 c l _ _ hr hc hb1).mono ?_; rintro e w1 ⟨rfl, hd1⟩))
    go_ret
    exact ⟨rfl, hd1⟩
  | true =>
    cases b2 with
    | false =>
      go_enter Tryd.func3, Tryd.ntmps3
      go_wp2_with (first
        | (go_at_call 5; go_must (refine (laws_zzFits1.calls _ A0 c l _ _ hr hc hb1).mono ?_; rintro e w1 ⟨rfl, hd1⟩); have hr1 := Kd.C_below hr hd1)
        | (go_at_call 6; go_must (refine (laws_bucketIn.calls _ A0 c l _ _ hr1 hc hb2).mono ?_; rintro e w2 ⟨rfl, hd2⟩)))
      go_ret
      exact ⟨rfl, hd1.trans (hd2.mono hd1.size)⟩
    | true =>
      obtain ⟨hl60, hin⟩ := hq rfl
      obtain ⟨r, hrr⟩ : ∃ r, runB (fun _ => none) l = r := ⟨_, rfl⟩
      have himp := impl_is l hl60 (fun s hs => (hin s hs).2.2)
      rw [hrr] at himp
      have hrl : r.length = l.length := by rw [← hrr, runB_length]
      have tok1 : True := trivial
      go_enter Tryd.func3, Tryd.ntmps3
      go_upto_region 13 with (first
        | (go_at_call 5; go_must (refine (laws_zzFits1.calls _ A0 c l _ _ hr hc hb1).mono ?_; rintro e w1 ⟨rfl, hd1⟩); have hr1 := Kd.C_below hr hd1)
        | (go_at_call 6; go_must (refine (laws_bucketIn.calls _ A0 c l _ _ hr1 hc hb2).mono ?_; rintro e w2 ⟨rfl, hd2⟩); have hr2 := Kd.C_below hr1 hd2; have g2 := hd1.trans (hd2.mono hd1.size))
        | (go_at_call 7; go_must (refine (laws_bucketAwake.calls _ _ (hL.below g2) awake_is).mono ?_; rintro e w3 ⟨rfl, hd3⟩); have hr3 := Kd.C_below hr2 hd3; have g3 := g2.trans (hd3.mono g2.size))
        | (go_at_call 8; have _t := tok1; clear tok1; go_must (refine (impl_BucketSteps.calls A0 c l r _ (hL.below g3) hr3 hc himp).mono ?_; rintro e w4 ⟨v4, rfl, ho4, hd4⟩); have hr4 := Kd.C_below hr3 hd4; have g4 := g3.trans (hd4.mono g3.size); obtain ⟨A4, c4, rfl, hc4, hC4⟩ := Kd.R_reads ho4))
      rw [hrl] at hC4 hc4
      go_loopg [4, 5, 25] l.length (fun gf s4 s5 s25 wx => ∃ (i : Nat) (own : List S28) (want : List S30), s25 = .int .i64 i ∧ i ≤ l.length ∧ l.length ≤ i + gf ∧ own.length ≤ i ∧ want.length = own.length ∧ wx.ownsRow w4.heap.size 28 6 s4 own.length (flat28 own) ∧ wx.ownsRow w4.heap.size 30 4 s5 own.length (flat30 want) ∧
        Below w4.heap.size w4 wx ∧ Hid (own ++ (l.drop i).filter keepB = l.filter keepB) ∧ Hid (want ++ selA (l.drop i) (r.drop i) = selA l r))
      case atStart => exact ⟨0, [], [], rfl, Nat.zero_le _, by omega, Nat.le_refl _, rfl, own_nil _ _ _ _, own_nil _ _ _ _, Below.refl _ _, Lib.hid (by simp), Lib.hid (by simp)⟩
      case round =>
        obtain ⟨i, own, want, rfl, hi, hfu, hol, hwl, ho1, ho2, hbw, hH1, hH2⟩ := hrel
        by_cases hlt : i < l.length
        · obtain ⟨g', rfl⟩ : ∃ g', gk = g' + 1 := ⟨gk - 1, by omega⟩
          have hCx := Kd.C_below hr4 hbw
          have hDx := Kd.C_below hC4 hbw
          obtain ⟨ad, hA0, x0, x1, x2, x3, x4, x5⟩ := at_T28 hCx (i : Int) (by omega) (by omega)
          obtain ⟨ae, hA4, y0, y1, y2, y3⟩ := at_T30 hDx (i : Int) (by omega) (by omega)
          have hsl : rd_T28 l (i : Int) = l[i] := by simp [rd_T28, hlt]
          have hrl' : rd_T30 r (i : Int) = r[i] := by simp [rd_T30, hrl, hlt]
          rw [hsl] at x0 x1 x2 x3 x4 x5
          rw [hrl'] at y0 y1 y2 y3
          have hz0 := fun hb => z30_at (fun _ => none) l (fun _ => none) rfl i hlt (by rw [hrr, hrl]; exact hlt) hb
          have hf1 := hH1.out
          have hf2 := hH2.out
          rw [List.drop_eq_getElem_cons hlt, List.filter_cons] at hf1
          rw [List.drop_eq_getElem_cons hlt, List.drop_eq_getElem_cons (show i < r.length by omega), selA_cons] at hf2
          simp only [hrr] at hz0
          obtain ⟨s, hs⟩ : ∃ s, l[i] = s := ⟨_, rfl⟩
          obtain ⟨x, hx⟩ : ∃ x, r[i]'(by omega) = x := ⟨_, rfl⟩
          rw [hs] at x0 x1 x2 x3 x4 x5 hz0 hf1 hf2
          rw [hx] at y0 y1 y2 y3 hz0 hf2
          simp only [Int.toNat_natCast] at x0 x1 x2 x3 x4 x5 y0 y1 y2 y3
          subst hA0 hA4
          obtain ⟨dv, b, good, asks, found, fails⟩ := s
          simp only at x0 x1 x2 x3 x4 x5 hz0
          clear hs hx hsl hrl' hH1 hH2
          obtain ⟨S, hS⟩ : ∃ S, wr.heap.size = S := ⟨_, rfl⟩
          have hS1 : (wr.alloc (.cells #[.int .i64 dv, .string b, .bool good, .bool asks, .bool found, .bool fails] 28)).heap[S]? = some (.cells #[.int .i64 dv, .string b, .bool good, .bool asks, .bool found, .bool fails] 28 (0, 0)) := by rw [← hS]; exact (MapKept.heap_alloc _ _).1
          by_cases hb : b = ⟨#[]⟩
          · subst hb
            have e1 : (⟨#[]⟩ : ByteArray).toList.isEmpty = true := by rw [ByteArray.toList_eq]; rfl
            rw [keep_nil] at hf1 hf2
            have := hz0 rfl
            subst this
            have F1 := Lib.hid hf1
            have F2 := Lib.hid hf2
            clear hf1 hf2 hz0
            simp only [z30] at y0 y1 y2 y3
            have lae : (ae.add (i * 4)).block < wr.heap.size := World.block_lt_of_cell? wr _ y0
            have ky : ∀ (a : Addr) (u : Value), a.block < wr.heap.size → wr.cell? a = some u → (wr.alloc (.cells #[.int .i64 dv, .string ⟨#[]⟩, .bool good, .bool asks, .bool found, .bool fails] 28)).cell? a = some u := fun a u h1 h2 => (((Below.refl wr.heap.size wr).alloc (Nat.le_refl _) _).cell h1).trans h2
            replace y0 := ky _ _ lae y0
            replace y1 := ky ⟨(ae.add (i * 4)).block, (ae.add (i * 4)).off + 1, none⟩ _ lae y1
            replace y2 := ky ⟨(ae.add (i * 4)).block, (ae.add (i * 4)).off + 2, none⟩ _ lae y2
            replace y3 := ky ⟨(ae.add (i * 4)).block, (ae.add (i * 4)).off + 3, none⟩ _ lae y3
            go_wp2_with fail
            go_roundg g'
            case measure => omega
            case rel => exact ⟨i + 1, own, want, by go_num, by omega, by omega, by omega, hwl, ho1.alloc _, ho2.alloc _, hbw.alloc hbw.size _, F1, F2⟩
          · have e1 := e_em hb
            clear hz0
            by_cases hd : dv = 2
            · subst hd
              rw [keep_two] at hf1 hf2
              have F1 := Lib.hid hf1
              have F2 := Lib.hid hf2
              clear hf1 hf2
              go_wp2_with fail
              go_roundg g'
              case measure => omega
              case rel => exact ⟨i + 1, own, want, by go_num, by omega, by omega, by omega, hwl, ho1.alloc _, ho2.alloc _, hbw.alloc hbw.size _, F1, F2⟩
            · have hd' : (dv == 2) = false := by simp [hd]
              rw [keep_yes _ _ _ _ _ _ hb hd] at hf1 hf2
              simp only [if_true] at hf1 hf2
              have F1 := Lib.hid hf1
              have F2 := Lib.hid hf2
              clear hf1 hf2
              obtain ⟨j0, hj0, jz0, jz1, jz2⟩ := info_parts info28
              obtain ⟨i0, hi0, iz0, iz1, iz2⟩ := info_parts info30
              have lae : (ae.add (i * 4)).block < wr.heap.size := World.block_lt_of_cell? wr _ y0
              have lae4 : (ae.add (i * 4)).block < w4.heap.size := by
                obtain ⟨ad', hA', z0, _⟩ := at_T30 hC4 (i : Int) (by omega) (by omega)
                cases hA'
                exact World.block_lt_of_cell? w4 _ z0
              have ky : ∀ (a : Addr) (u : Value), a.block < wr.heap.size → wr.cell? a = some u → (wr.alloc (.cells #[.int .i64 dv, .string b, .bool good, .bool asks, .bool found, .bool fails] 28)).cell? a = some u := fun a u h1 h2 => (((Below.refl wr.heap.size wr).alloc (Nat.le_refl _) _).cell h1).trans h2
              replace y0 := ky _ _ lae y0
              replace y1 := ky ⟨(ae.add (i * 4)).block, (ae.add (i * 4)).off + 1, none⟩ _ lae y1
              replace y2 := ky ⟨(ae.add (i * 4)).block, (ae.add (i * 4)).off + 2, none⟩ _ lae y2
              replace y3 := ky ⟨(ae.add (i * 4)).block, (ae.add (i * 4)).off + 3, none⟩ _ lae y3
              have hoW1 := ho1.alloc (.cells #[.int .i64 dv, .string b, .bool good, .bool asks, .bool found, .bool fails] 28)
              have hoW2 := ho2.alloc (.cells #[.int .i64 dv, .string b, .bool good, .bool asks, .bool found, .bool fails] 28)
              have hbW := hbw.alloc hbw.size (.cells #[.int .i64 dv, .string b, .bool good, .bool asks, .bool found, .bool fails] 28)
              have sx0 := cellH hS1 0 _ rfl
              have sx1 := cellH hS1 1 _ rfl
              have sx2 := cellH hS1 2 _ rfl
              have sx3 := cellH hS1 3 _ rfl
              have sx4 := cellH hS1 4 _ rfl
              have sx5 := cellH hS1 5 _ rfl
              simp only [List.getElem_toArray, List.getElem_cons_succ, List.getElem_cons_zero] at sx0 sx1 sx2 sx3 sx4 sx5
              have lS := ltH hS1
              have n1 : some S ≠ u4.ownBlock := fun e => by have := own_lt ho1 S e.symm; omega
              have n2 : some S ≠ u5.ownBlock := fun e => by have := own_lt ho2 S e.symm; omega
              have n3 : some (ae.add (i * 4)).block ≠ u4.ownBlock := fun e => by have := own_base ho1 _ e.symm; omega
              have n4 : some (ae.add (i * 4)).block ≠ u5.ownBlock := fun e => by have := own_base ho2 _ e.symm; omega
              go_upto_region 18 with fail
              clear x0 x1 x2 x3 x4 x5 hCx hDx
              obtain ⟨W, hW⟩ : ∃ W, wr.alloc (.cells #[.int .i64 dv, .string b, .bool good, .bool asks, .bool found, .bool fails] 28) = W := ⟨_, rfl⟩
              rw [hW] at y0 y1 y2 y3 hoW1 hoW2 hbW sx0 sx1 sx2 sx3 sx4 sx5 lS ⊢
              have laW : (ae.add (i * 4)).block < W.heap.size := World.block_lt_of_cell? W _ y0
              have baseW := hbW.size
              clear hW hS1 ky lae
              have n5 : u5.ownBlock ≠ u4.ownBlock ∨ u5.ownBlock = none := by
                rcases own_type_ne ho2 ho1 (by decide) with h | h
                · exact .inr h
                · exact .inl h
              have n5' : u5.ownBlock = none ∨ u5.ownBlock ≠ u4.ownBlock := n5.symm
              have n6 : some W.heap.size ≠ u4.ownBlock := fun e => by have := own_lt hoW1 _ e.symm; omega
              have n7 : some (W.heap.size + 1) ≠ u4.ownBlock := fun e => by have := own_lt hoW1 _ e.symm; omega
              have o13 : Hid (((W.alloc (.cells #[.int .i64 dv, .string b, .bool good, .bool asks, .bool found, .bool fails] 28)).drew).ownsRow w4.heap.size 28 6 u4 own.length (flat28 own)) := Lib.hid ((hoW1.alloc _).drew)
              have o11 : Hid ((((W.alloc (.cells #[.int .i64 dv, .string b, .bool good, .bool asks, .bool found, .bool fails] 28)).alloc (.cells #[.bool x.f0, .bool x.f1, .bool x.f2, .int .i64 x.f3] 30)).drew).ownsRow w4.heap.size 28 6 u4 own.length (flat28 own)) := Lib.hid (((hoW1.alloc _).alloc _).drew)
              have o12 : Hid ((((W.alloc (.cells #[.bool x.f0, .bool x.f1, .bool x.f2, .int .i64 x.f3] 30)).alloc (.cells #[.int .i64 dv, .string b, .bool good, .bool asks, .bool found, .bool fails] 28)).drew).ownsRow w4.heap.size 28 6 u4 own.length (flat28 own)) := Lib.hid (((hoW1.alloc _).alloc _).drew)
              have o23 : Hid (((W.alloc (.cells #[.int .i64 dv, .string b, .bool good, .bool asks, .bool found, .bool fails] 28)).drew).ownsRow w4.heap.size 30 4 u5 own.length (flat30 want)) := Lib.hid ((hoW2.alloc _).drew)
              have o21 : Hid ((((W.alloc (.cells #[.int .i64 dv, .string b, .bool good, .bool asks, .bool found, .bool fails] 28)).alloc (.cells #[.bool x.f0, .bool x.f1, .bool x.f2, .int .i64 x.f3] 30)).drew).ownsRow w4.heap.size 30 4 u5 own.length (flat30 want)) := Lib.hid (((hoW2.alloc _).alloc _).drew)
              have o22 : Hid ((((W.alloc (.cells #[.bool x.f0, .bool x.f1, .bool x.f2, .int .i64 x.f3] 30)).alloc (.cells #[.int .i64 dv, .string b, .bool good, .bool asks, .bool found, .bool fails] 28)).drew).ownsRow w4.heap.size 30 4 u5 own.length (flat30 want)) := Lib.hid (((hoW2.alloc _).alloc _).drew)
              have z1 : (W.alloc (.cells #[.int .i64 dv, .string b, .bool good, .bool asks, .bool found, .bool fails] 28)).heap.size = W.heap.size + 1 := by simp
              have z2 : (W.alloc (.cells #[.bool x.f0, .bool x.f1, .bool x.f2, .int .i64 x.f3] 30)).heap.size = W.heap.size + 1 := by simp
              have q3 : Hid (((W.alloc (.cells #[.int .i64 dv, .string b, .bool good, .bool asks, .bool found, .bool fails] 28)).drew).heap[W.heap.size]? = some (.cells #[.int .i64 dv, .string b, .bool good, .bool asks, .bool found, .bool fails] 28 (0, 0))) := Lib.hid ((MapKept.heap_alloc W _).1)
              have q1 : Hid ((((W.alloc (.cells #[.int .i64 dv, .string b, .bool good, .bool asks, .bool found, .bool fails] 28)).alloc (.cells #[.bool x.f0, .bool x.f1, .bool x.f2, .int .i64 x.f3] 30)).drew).heap[W.heap.size]? = some (.cells #[.int .i64 dv, .string b, .bool good, .bool asks, .bool found, .bool fails] 28 (0, 0))) := Lib.hid ((Below.heap_alloc _ _ _ (by rw [z1]; omega)).trans (MapKept.heap_alloc W _).1)
              have q2 : Hid ((((W.alloc (.cells #[.bool x.f0, .bool x.f1, .bool x.f2, .int .i64 x.f3] 30)).alloc (.cells #[.int .i64 dv, .string b, .bool good, .bool asks, .bool found, .bool fails] 28)).drew).heap[W.heap.size + 1]? = some (.cells #[.int .i64 dv, .string b, .bool good, .bool asks, .bool found, .bool fails] 28 (0, 0))) := Lib.hid (by have h9 := (MapKept.heap_alloc (W.alloc (.cells #[.bool x.f0, .bool x.f1, .bool x.f2, .int .i64 x.f3] 30)) (.cells #[.int .i64 dv, .string b, .bool good, .bool asks, .bool found, .bool fails] 28)).1; rw [z2] at h9; exact h9)
              have p1 : Hid ((((W.alloc (.cells #[.int .i64 dv, .string b, .bool good, .bool asks, .bool found, .bool fails] 28)).alloc (.cells #[.bool x.f0, .bool x.f1, .bool x.f2, .int .i64 x.f3] 30)).drew).heap[W.heap.size + 1]? = some (.cells #[.bool x.f0, .bool x.f1, .bool x.f2, .int .i64 x.f3] 30 (0, 0))) := Lib.hid (by have h9 := (MapKept.heap_alloc (W.alloc (.cells #[.int .i64 dv, .string b, .bool good, .bool asks, .bool found, .bool fails] 28)) (.cells #[.bool x.f0, .bool x.f1, .bool x.f2, .int .i64 x.f3] 30)).1; rw [z1] at h9; exact h9)
              have p2 : Hid ((((W.alloc (.cells #[.bool x.f0, .bool x.f1, .bool x.f2, .int .i64 x.f3] 30)).alloc (.cells #[.int .i64 dv, .string b, .bool good, .bool asks, .bool found, .bool fails] 28)).drew).heap[W.heap.size]? = some (.cells #[.bool x.f0, .bool x.f1, .bool x.f2, .int .i64 x.f3] 30 (0, 0))) := Lib.hid ((Below.heap_alloc _ _ _ (by rw [z2]; omega)).trans (MapKept.heap_alloc W _).1)
              clear z1 z2
              go_region_held3 (fun w' => (w'.cell? ⟨S, 0, none⟩ = some (.int .i64 dv) ∧ w'.cell? ⟨S, 1, none⟩ = some (.string b) ∧ w'.cell? ⟨S, 2, none⟩ = some (.bool good) ∧ w'.cell? ⟨S, 3, none⟩ = some (.bool asks) ∧ w'.cell? ⟨S, 4, none⟩ = some (.bool found) ∧ w'.cell? ⟨S, 5, none⟩ = some (.bool fails)) ∧
                  w'.cell? (ae.add (i * 4)) = some (.bool x.f0) ∧ w'.cell? ⟨(ae.add (i * 4)).block, (ae.add (i * 4)).off + 1, none⟩ = some (.bool x.f1) ∧ w'.cell? ⟨(ae.add (i * 4)).block, (ae.add (i * 4)).off + 2, none⟩ = some (.bool x.f2) ∧ w'.cell? ⟨(ae.add (i * 4)).block, (ae.add (i * 4)).off + 3, none⟩ = some (.int .i64 x.f3))
                (first
                  | go_keep
                  | (go_split_ands
                     refine ⟨⟨?_, ?_, ?_, ?_, ?_, ?_⟩, ?_, ?_, ?_, ?_⟩ <;>
                       first
                       | (rw [hgrow2.cell_far _ (by first | (simp; omega) | (show _ < _; omega)) (by first | exact n2 | exact n4)]; assumption)
                       | (rw [hgrow.cell_far _ (by first | (simp; omega) | (show _ < _; omega)) (by first | exact n1 | exact n3)]; assumption)))
                (first
                  | (refine step_append_lies _ rfl (.tmp 49) (.tmp 51) 22 rfl w4.heap.size 28 j0 _ 6 32 Tryd.underlying22 hj0 jz0 jz1 jz2 rfl (by omega) u4 own.length (flat28 own) rfl ?own ⟨W.heap.size, 0, none⟩ 1 1 [.int .i64 dv, .string b, .bool good, .bool asks, .bool found, .bool fails] rfl rfl ?news (by simp [Value.oneCell']) (by omega) (by unfold maxLen; omega) (by omega) (by simp; omega) _ rfl ?_; (case own => first | with_reducible exact o13.out | with_reducible exact o11.out); (case news => first | with_reducible exact World.news_of_block (cs := #[.int .i64 dv, .string b, .bool good, .bool asks, .bool found, .bool fails]) (t := 28) (fr := (0, 0)) q3.out | with_reducible exact World.news_of_block (cs := #[.int .i64 dv, .string b, .bool good, .bool asks, .bool found, .bool fails]) (t := 28) (fr := (0, 0)) q1.out); intro gg cap w6 hown6 hgrow hat hlt6; have bW6 : W.heap.size ≤ w6.heap.size := Nat.le_trans (by simp <;> omega) hgrow.size)
                  | (refine step_append_lies _ rfl (.tmp 49) (.tmp 51) 22 rfl w4.heap.size 28 j0 _ 6 32 Tryd.underlying22 hj0 jz0 jz1 jz2 rfl (by omega) u4 own.length (flat28 own) rfl ?own ⟨W.heap.size + 1, 0, none⟩ 1 1 [.int .i64 dv, .string b, .bool good, .bool asks, .bool found, .bool fails] rfl rfl ?news (by simp [Value.oneCell']) (by omega) (by unfold maxLen; omega) (by omega) (by simp; omega) _ rfl ?_; (case own => first | with_reducible exact o12.out); (case news => first | with_reducible exact World.news_of_block (cs := #[.int .i64 dv, .string b, .bool good, .bool asks, .bool found, .bool fails]) (t := 28) (fr := (0, 0)) q2.out); intro gg cap w6 hown6 hgrow hat hlt6; have bW6 : W.heap.size ≤ w6.heap.size := Nat.le_trans (by simp <;> omega) hgrow.size)
                  | (refine step_append_lies _ rfl (.tmp 53) (.tmp 58) 25 rfl w4.heap.size 30 i0 _ 4 16 Tryd.underlying25 hi0 iz0 iz1 iz2 rfl (by omega) u5 own.length (flat30 want) rfl ?own ⟨W.heap.size + 1, 0, none⟩ 1 1 [.bool x.f0, .bool x.f1, .bool x.f2, .int .i64 x.f3] rfl rfl ?news (by simp [Value.oneCell']) (by omega) (by unfold maxLen; omega) (by omega) ?base _ rfl ?_; (case own => exact own_other o21.out hgrow n5'); (case news => exact World.news_of_block (cs := #[.bool x.f0, .bool x.f1, .bool x.f2, .int .i64 x.f3]) (t := 30) (fr := (0, 0)) ((hgrow.block _ (by simp <;> omega) n7).trans p1.out)); (case base => exact Nat.le_trans (Nat.le_trans baseW bW6) (by simp)); intro gg2 cap2 w7 hown7 hgrow2 hat2 hlt7)
                  | (refine step_append_lies _ rfl (.tmp 53) (.tmp 58) 25 rfl w4.heap.size 30 i0 _ 4 16 Tryd.underlying25 hi0 iz0 iz1 iz2 rfl (by omega) u5 own.length (flat30 want) rfl ?own ⟨W.heap.size, 0, none⟩ 1 1 [.bool x.f0, .bool x.f1, .bool x.f2, .int .i64 x.f3] rfl rfl ?news (by simp [Value.oneCell']) (by omega) (by unfold maxLen; omega) (by omega) ?base _ rfl ?_; (case own => exact own_other o22.out hgrow n5'); (case news => exact World.news_of_block (cs := #[.bool x.f0, .bool x.f1, .bool x.f2, .int .i64 x.f3]) (t := 30) (fr := (0, 0)) ((hgrow.block _ (by simp <;> omega) n6).trans p2.out)); (case base => exact Nat.le_trans (Nat.le_trans baseW bW6) (by simp)); intro gg2 cap2 w7 hown7 hgrow2 hat2 hlt7)
                  | (refine step_append_lies _ rfl (.tmp 53) (.tmp 58) 25 rfl w4.heap.size 30 i0 _ 4 16 Tryd.underlying25 hi0 iz0 iz1 iz2 rfl (by omega) u5 own.length (flat30 want) rfl ?own ⟨w6.heap.size, 0, none⟩ 1 1 [.bool x.f0, .bool x.f1, .bool x.f2, .int .i64 x.f3] rfl rfl ?news (by simp [Value.oneCell']) (by omega) (by unfold maxLen; omega) (by omega) ?base _ rfl ?_; (case own => exact (own_other o23.out hgrow n5').alloc _); (case news => exact World.news_of_block (cs := #[.bool x.f0, .bool x.f1, .bool x.f2, .int .i64 x.f3]) (t := 30) (fr := (0, 0)) (MapKept.heap_alloc w6 _).1); (case base => exact Nat.le_trans (Nat.le_trans baseW bW6) (by simp)); intro gg2 cap2 w7 hown7 hgrow2 hat2 hlt7))
              · have t6 := own_other o23.out hgrow n5'
                have ne6 := own_type_ne hown6 t6 (by decide)
                have f7 := own_other (hown6.alloc _) hgrow2 ne6
                have b6 : Below w4.heap.size w4 w6 := (below_drew1 (hbW.alloc baseW _)).grown hgrow (by simp; omega) (fun j hj => own_base o13.out j hj)
                have b7 : Below w4.heap.size w4 w7 := (b6.alloc b6.size _).grown hgrow2 (by have := b6.size; simp; omega) (fun j hj => own_base t6 j hj)
                go_wp2
                go_roundg g'
                case measure => omega
                case rel => exact ⟨i + 1, own ++ [⟨dv, b, good, asks, found, fails⟩], want ++ [x], by go_num, by omega, by omega, by simp; omega, by simp; omega, by rw [flat28_snoc, List.length_append]; exact f7, by rw [flat_snoc, List.length_append]; exact hown7, b7, Lib.hid (by rw [List.append_assoc]; exact F1.out), Lib.hid (by rw [List.append_assoc]; exact F2.out)⟩
              · have t6 := own_other o21.out hgrow n5'
                have ne6 := own_type_ne hown6 t6 (by decide)
                have f7 := own_other hown6 hgrow2 ne6
                have b6 : Below w4.heap.size w4 w6 := (below_drew1 ((hbW.alloc baseW _).alloc (by simp; omega) _)).grown hgrow (by simp; omega) (fun j hj => own_base o11.out j hj)
                have b7 : Below w4.heap.size w4 w7 := b6.grown hgrow2 b6.size (fun j hj => own_base t6 j hj)
                go_wp2
                go_roundg g'
                case measure => omega
                case rel => exact ⟨i + 1, own ++ [⟨dv, b, good, asks, found, fails⟩], want ++ [x], by go_num, by omega, by omega, by simp; omega, by simp; omega, by rw [flat28_snoc, List.length_append]; exact f7, by rw [flat_snoc, List.length_append]; exact hown7, b7, Lib.hid (by rw [List.append_assoc]; exact F1.out), Lib.hid (by rw [List.append_assoc]; exact F2.out)⟩
              · have t6 := own_other o22.out hgrow n5'
                have ne6 := own_type_ne hown6 t6 (by decide)
                have f7 := own_other hown6 hgrow2 ne6
                have b6 : Below w4.heap.size w4 w6 := (below_drew1 ((hbW.alloc baseW _).alloc (by simp; omega) _)).grown hgrow (by simp; omega) (fun j hj => own_base o12.out j hj)
                have b7 : Below w4.heap.size w4 w7 := b6.grown hgrow2 b6.size (fun j hj => own_base t6 j hj)
                go_wp2
                go_roundg g'
                case measure => omega
                case rel => exact ⟨i + 1, own ++ [⟨dv, b, good, asks, found, fails⟩], want ++ [x], by go_num, by omega, by omega, by simp; omega, by simp; omega, by rw [flat28_snoc, List.length_append]; exact f7, by rw [flat_snoc, List.length_append]; exact hown7, b7, Lib.hid (by rw [List.append_assoc]; exact F1.out), Lib.hid (by rw [List.append_assoc]; exact F2.out)⟩
        · have hil : i = l.length := by omega
          have hlt' : ¬ ((i : Int) < (l.length : Int)) := by omega
          have hd0 : l.drop i = [] := List.drop_eq_nil_of_le (by omega)
          have hown : own = l.filter keepB := by
            have := hH1.out
            rw [hd0] at this
            simpa using this
          have hsub : ∀ s ∈ own, s ∈ l := fun s hs => by
            rw [hown] at hs
            exact (List.mem_filter.1 hs).1
          have hwant : want = runB (fun _ => none) own := by
            have h1 := hH2.out
            rw [hd0] at h1
            have h2 : want = selA l r := by simpa [selA] using h1
            rw [h2, hown, run_sel l _ rfl, hrr]
          have himp2 := impl_is own (by omega) (fun s hs => (hin s (hsub s hs)).2.2)
          rw [← hwant] at himp2
          rw [← hwl] at ho2
          obtain ⟨A5, c5, e5, hc5, hC5⟩ := Kd.R_reads (row28 ho1)
          obtain ⟨A6, c6, e6, hc6, hC6⟩ := Kd.R_reads (row30 ho2)
          subst e5 e6
          have g5 := g4.trans (hbw.mono g4.size)
          have hL5 := hL.below g5
          have hsame := same_some want (by omega)
          clear hown hwant hH1 hH2 hd0 hsub himp hrr hin ho1 ho2 hwl
          go_wp2_with (first
            | (go_at_call 8; go_must (refine (impl_BucketSteps.calls A5 c5 own want _ hL5 hC5 hc5 himp2).mono ?_; rintro e w8 ⟨v8, rfl, ho8, hd8⟩); obtain ⟨A8, c8, rfl, hc8, hC8⟩ := Kd.R_reads ho8; have hC6' := Kd.C_below hC6 hd8)
            | (go_at_call 9; go_must (refine (laws_bucketSame.calls _ A8 c8 want A6 c6 want true _ hC8 hc8 hC6' hc6 hsame).mono ?_; rintro e w9 ⟨rfl, hd9⟩)))
          go_ret
          exact ⟨rfl, (g5.trans (hd8.mono g5.size)).trans (hd9.below.mono (Nat.le_trans g5.size hd8.size))⟩
end Go.Proofs.YtcomnkbkkpeilaaDoor.Given
