/- The walk of laws.FnBucketSteps: it returns true, for every list of steps, where the variable ErrAlreadyDeleted holds an error. -/
import Derived.Test.YtcomnkbkkpeilaaDoorStep
namespace Go.Proofs.YtcomnkbkkpeilaaDoor.Given
open Go.RowKit Go.WideMaps Go.Maps Go.Proofs.YtcomnkbkkpeilaaDoorW.PrintWords Go.Proofs.YtcomnkbkkpeilaaDoor.PA Go.Proofs.YtcomnkbkkpeilaaDoor.Pl
set_option linter.unusedVariables false
set_option linter.unusedSimpArgs false

theorem rowA {w : World} {base : Nat} {v : Value} {l : List S30} (h : w.ownsRow base 30 4 v l.length (flat30 l)) : Kd.R k30 30 w base (fun _ => True) v l := ⟨fun _ _ => trivial, flat30 l, h, reps30 _ _ _ _⟩

set_option maxHeartbeats 4000000 in
set_option maxRecDepth 100000 in
theorem bsteps_any (A0 : Option Addr) (c : Nat) (l : List S28) (w : World) (hL : LaidE w) (hr : Kd.C k28 w A0 l.length l) (hc : l.length ≤ c) :
    Calls Tryd.prog 4 #[.slice A0 l.length c] w fun e w' => e = .returned (.bool true) ∧ Below w.heap.size w w' := by
  obtain ⟨b1, hb1⟩ := fits_some l hr.2.1
  obtain ⟨b2, hb2, hq⟩ := in_some l hr.2.1
  cases b1 with
  | false =>
    go_enter Tryd.func4, Tryd.ntmps4
    go_wp2_with (go_at_call 5; go_must (refine (laws_zzFits1.calls _ A0 c l _ _ hr hc hb1).mono ?_; rintro e w1 ⟨rfl, hd1⟩))
    go_ret
    exact ⟨rfl, hd1⟩
  | true =>
    cases b2 with
    | false =>
      go_enter Tryd.func4, Tryd.ntmps4
      go_wp2_with (first
        | (go_at_call 5; go_must (refine (laws_zzFits1.calls _ A0 c l _ _ hr hc hb1).mono ?_; rintro e w1 ⟨rfl, hd1⟩); have hr1 := Kd.C_below hr hd1)
        | (go_at_call 6; go_must (refine (laws_bucketIn.calls _ A0 c l _ _ hr1 hc hb2).mono ?_; rintro e w2 ⟨rfl, hd2⟩)))
      go_ret
      exact ⟨rfl, hd1.trans (hd2.mono hd1.size)⟩
    | true =>
      obtain ⟨hl60, hin⟩ := hq rfl
      obtain ⟨r, hrr⟩ : ∃ r, runB (fun _ => none) l = r := ⟨_, rfl⟩
      have himp := impl_is l hl60 (fun s hs => (hin s hs).2.2)
      rw [hrr] at himp
      have hrl : r.length = l.length := by rw [← hrr, runB_length]
      go_enter Tryd.func4, Tryd.ntmps4
      go_upto_region 10 with (first
        | (go_at_call 5; go_must (refine (laws_zzFits1.calls _ A0 c l _ _ hr hc hb1).mono ?_; rintro e w1 ⟨rfl, hd1⟩); have hr1 := Kd.C_below hr hd1)
        | (go_at_call 6; go_must (refine (laws_bucketIn.calls _ A0 c l _ _ hr1 hc hb2).mono ?_; rintro e w2 ⟨rfl, hd2⟩); have hr2 := Kd.C_below hr1 hd2; have g2 := hd1.trans (hd2.mono hd1.size))
        | (go_at_call 7; go_must (refine (laws_bucketAwake.calls _ _ (hL.below g2) awake_is).mono ?_; rintro e w3 ⟨rfl, hd3⟩); have hr3 := Kd.C_below hr2 hd3; have g3 := g2.trans (hd3.mono g2.size)))
      obtain ⟨B, hB⟩ : ∃ B, w3.heap.size = B := ⟨_, rfl⟩
      rw [hB]
      go_loopg [4, 17] l.length (fun gf s4 s17 wx => ∃ (i n : Nat) (vN vI : Value) (kv : List (ByteArray × Int)) (f : ByteArray → Option Bool) (want : List S30), s17 = .int .i64 i ∧ i ≤ l.length ∧ l.length ≤ i + gf ∧ n ≤ i ∧ want.length = i ∧ SpecB wx B B n vN vI kv ∧ Rel kv f ∧ f ⟨#[]⟩ = none ∧
        wx.ownsRow B 30 4 s4 i (flat30 want) ∧ Below B w3 wx ∧ Hid (want ++ runB f (l.drop i) = runB (fun _ => none) l))
      case atStart =>
        have h3 := (MapKept.heap_alloc w3 (.cells #[.slice none 0 0, .slice none 0 0] 35)).1
        rw [hB] at h3
        refine ⟨0, 0, .slice none 0 0, .slice none 0 0, [], fun _ => none, [], rfl, Nat.zero_le _, by omega, Nat.le_refl _, rfl, ⟨h3, own_nil _ _ _ _, own_nil _ _ _ _, rfl, by omega⟩, fun c => rfl, rfl, own_nil _ _ _ _, (Below.refl _ _).alloc (by omega) _, Lib.hid (by simp)⟩
      case round =>
        obtain ⟨i, n, vN, vI, kv, f, want, rfl, hi, hfu, hni, hwl, hSp, hRel, hf0, hown, hbw, hH⟩ := hrel
        have hbw' : Below w3.heap.size w3 wr := by rw [hB]; exact hbw
        by_cases hlt : i < l.length
        · obtain ⟨g', rfl⟩ : ∃ g', gk = g' + 1 := ⟨gk - 1, by omega⟩
          have hCx := Kd.C_below hr3 hbw'
          obtain ⟨ad, hA0, x0, x1, x2, x3, x4, x5⟩ := at_T28 hCx (i : Int) (by omega) (by omega)
          have hsl : rd_T28 l (i : Int) = l[i] := by simp [rd_T28, hlt]
          rw [hsl] at x0 x1 x2 x3 x4 x5
          have hH1 := hH.out
          rw [List.drop_eq_getElem_cons hlt] at hH1
          obtain ⟨s, hs⟩ : ∃ s, l[i] = s := ⟨_, rfl⟩
          rw [hs] at x0 x1 x2 x3 x4 x5 hH1
          simp only [runB] at hH1
          have hf1 := step_none f s hf0
          simp only [Int.toNat_natCast] at x0 x1 x2 x3 x4 x5
          subst hA0
          obtain ⟨dv, b, good, asks, found, fails⟩ := s
          simp only at x0 x1 x2 x3 x4 x5
          have hst := step_any _ B B n vN vI kv f dv b good asks found fails (hSp.alloc (.cells #[.int .i64 dv, .string b, .bool good, .bool asks, .bool found, .bool fails] 28)) hRel hf0 (by omega) (by have := hbw'.size; simp; omega)
          obtain ⟨x, hx⟩ : ∃ x, (stepB f ⟨dv, b, good, asks, found, fails⟩).2 = x := ⟨_, rfl⟩
          obtain ⟨f', hf'⟩ : ∃ f', (stepB f ⟨dv, b, good, asks, found, fails⟩).1 = f' := ⟨_, rfl⟩
          rw [hx, hf'] at hst
          rw [hx, hf'] at hH1
          rw [hf'] at hf1
          have F := Lib.hid hH1
          clear hH hH1 hs hsl hx hf' hCx
          obtain ⟨i0, hi0, iz0, iz1, iz2⟩ := info_parts info30
          have ho1 := hown.alloc (.cells #[.int .i64 dv, .string b, .bool good, .bool asks, .bool found, .bool fails] 28)
          have hSp1 := hSp.alloc (.cells #[.int .i64 dv, .string b, .bool good, .bool asks, .bool found, .bool fails] 28)
          have hb1' : Below B w3 (wr.alloc (.cells #[.int .i64 dv, .string b, .bool good, .bool asks, .bool found, .bool fails] 28)) := hbw.alloc (by have := hbw'.size; omega) _
          have szB : B ≤ wr.heap.size := by have := hbw'.size; omega
          go_wp2_with (first
            | (go_at_call 10; go_must (refine hst.mono ?_; rintro e w6 ⟨rfl, n', vN', vI', kv', hn', hS6, hR6, hk6⟩);
               have own6 := own_move ho1 (fun k hk => hk6.2.2.2.2 k (own_lt ho1 k hk) (fun e => own_ne ho1 hSp1.hB (by decide) (by rw [hk, e])) (fun e => (own_type_ne ho1 hSp1.oN (by decide)).elim (fun h => by rw [h] at hk; cases hk) (fun h => h (by rw [hk, e]))) (fun e => (own_type_ne ho1 hSp1.oI (by decide)).elim (fun h => by rw [h] at hk; cases hk) (fun h => h (by rw [hk, e]))));
               have sz6 : B ≤ w6.heap.size := (by have := hk6.2.2.2.1; simp at this; omega);
               have b6 : Below B w3 w6 := hb1'.trans ⟨hk6.1, hk6.2.1, hk6.2.2.1, hk6.2.2.2.1, fun k hk => hk6.2.2.2.2 k (by simp; omega) (by omega) (fun e => by have := own_base hSp1.oN k e.symm; omega) (fun e => by have := own_base hSp1.oI k e.symm; omega)⟩)
            | (at_builtin; go_must (refine wpList_append_own _ rfl (.tmp 21) (.tmp 24) 25 rfl B 30 i0 (.agg #[.bool false, .bool false, .bool false, .int .i64 0]) 4 16 Tryd.underlying25 hi0 iz0 iz1 iz2 rfl (by decide) _ _ _ rfl (own6.alloc _) ⟨w6.heap.size, 0, none⟩ 1 1 [.bool x.f0, .bool x.f1, .bool x.f2, .int .i64 x.f3] rfl rfl (cells_four _ _ _ _ _ _) (by intro u hu; simp at hu; rcases hu with rfl | rfl | rfl | rfl <;> rfl) (by unfold maxLen; omega) (by omega) (by simp; omega) ?_; intro v8 w8 hown8 hg8 hnil8)))
          have hS7 := hS6.alloc (.cells #[.bool x.f0, .bool x.f1, .bool x.f2, .int .i64 x.f3] 30)
          have own7 := own6.alloc (.cells #[.bool x.f0, .bool x.f1, .bool x.f2, .int .i64 x.f3] 30)
          have hS8 : SpecB w8 B B n' vN' vI' kv' := ⟨(hg8.block B (ltH hS7.hB) (own_ne own7 hS7.hB (by decide))).trans hS7.hB, own_other hS7.oN hg8 (own_type_ne hS7.oN own7 (by decide)), own_other hS7.oI hg8 (own_type_ne hS7.oI own7 (by decide)), hS7.len, hS7.sm⟩
          have b8 : Below B w3 w8 := (b6.alloc sz6 _).grown hg8 (by simp; omega) (fun j hj => own_base own6 j hj)
          go_roundg g'
          case measure => omega
          case rel => exact ⟨i + 1, n', vN', vI', kv', f', want ++ [x], by go_num, by omega, by omega, by omega, by simp; omega, hS8, hR6, hf1, by rw [flat_snoc]; exact hown8, b8, Lib.hid (by rw [List.append_assoc]; exact F.out)⟩
        · have hil : i = l.length := by omega
          have hlt' : ¬ ((i : Int) < (l.length : Int)) := by omega
          have hwant : want = r := by
            have h1 := hH.out
            rw [List.drop_eq_nil_of_le (by omega), hrr] at h1
            simpa [runB] using h1
          rw [← hwl] at hown
          obtain ⟨A6, c6, e6, hc6, hC6⟩ := Kd.R_reads (rowA hown)
          subst e6
          have g5 := g3.trans (hbw'.mono g3.size)
          have hL5 := hL.below g5
          have hr5 := Kd.C_below hr3 hbw'
          have hsame := same_some want (by omega)
          rw [← hwant] at himp
          clear hwant hH hrr hin hrl hwl hown hSp hRel hi hni
          go_wp2_with (first
            | (go_at_call 8; go_must (refine (impl_BucketSteps.calls A0 c l want _ hL5 hr5 hc himp).mono ?_; rintro e w8 ⟨v8, rfl, ho8, hd8⟩); obtain ⟨A8, c8, rfl, hc8, hC8⟩ := Kd.R_reads ho8; have hC6' := Kd.C_below hC6 hd8)
            | (go_at_call 9; go_must (refine (laws_bucketSame.calls _ A8 c8 want A6 c6 want true _ hC8 hc8 hC6' hc6 hsame).mono ?_; rintro e w9 ⟨rfl, hd9⟩)))
          go_ret
          exact ⟨rfl, (g5.trans (hd8.mono g5.size)).trans (hd9.below.mono (Nat.le_trans g5.size hd8.size))⟩
end Go.Proofs.YtcomnkbkkpeilaaDoor.Given
