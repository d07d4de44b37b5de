/- impl.MaskSet: Set over the pieces of a text. -/
import Derived.Test.YtjabjcgomnjpcaaDoorMw
namespace Go.Proofs.YtjabjcgomnjpcaaDoor.Given
open Go.RowKit Go.Proofs.YtjabjcgomnjpcaaDoorW.PrintWords Go.Proofs.YtjabjcgomnjpcaaDoorW.PrintLast Go.Proofs.YtjabjcgomnjpcaaDoorW.PrintMore Go.Proofs.YtjabjcgomnjpcaaDoor.PM
open Go.Proofs.YtjabjcgomnjpcaaDoor.Zp
set_option linter.unusedVariables false
set_option linter.unusedSimpArgs false

/-- A row of pieces: its cells, in whatever world behind. -/
theorem row_cell {w : World} {base g n cap : Nat} {L : List (List UInt8)} (h : w.ownsRow base 9 1 (.slice (some ⟨g, 0, none⟩) n cap) n (encs encP L)) {i : Nat} {x : List UInt8} (hi : L[i]? = some x) {W : World} (hb : Below w.heap.size w W) : W.cell? ⟨g, i, none⟩ = some (.string (strB x)) := by
  have hl : L.length = n := by have := h.1; simp [encs] at this; exact this
  have hil : i < L.length := (List.getElem?_eq_some_iff.1 hi).1
  have h1 := (own_at_of (d := []) h (i : Int) (by omega) (by omega)).1
  rw [Int.toNat_natCast] at h1
  have h2 : rdOf [] L (i : Int) = x := by
    show L.getD i [] = x
    simp [List.getD, hi]
  rw [h2] at h1
  exact (hb.cell (World.block_lt_of_cell? w _ h1)).trans h1
theorem set_step {P : List (List UInt8)} {i m : Nat} {x : List UInt8} (hi : P[i]? = some x) : setL (P.drop i) m = match pieceV x with
    | none => none
    | some v => setL (P.drop (i + 1)) (m ||| v) := by
  obtain ⟨h, e⟩ := List.getElem?_eq_some_iff.1 hi
  rw [List.drop_eq_getElem_cons h, e]
  rfl
/-- What Set answers, and leaves at the mask. -/
def ansSet (r : Option Nat) (old : Int) (v : Value) (c : Option Value) : Prop := match r with
  | some n => v = .nilIface ∧ c = some (.int .u64 (n : Int))
  | none => (∃ t p, v = .iface t p) ∧ c = some (.int .u64 old)
set_option maxHeartbeats 4000000 in
set_option maxRecDepth 100000 in
theorem set14 (s : ByteArray) (b : Nat) (old : Int) (w : World) (hs : s.size ≤ 1000000) (ha : ∀ c ∈ tl s, c.toNat < 128) (hE : Ev w) (hc : w.cell? ⟨b, 0, none⟩ = some (.int .u64 old)) (hf : w.frozen? ⟨b, 0, none⟩ = false) :
    Calls Tryd.prog 14 #[.pointer (some ⟨b, 0, none⟩), .string s] w fun e w' => ∃ v, e = .returned v ∧ ansSet (setV (tl s)) old v (w'.cell? ⟨b, 0, none⟩) ∧ Below b w w' := by
  have hbl := World.block_lt_of_cell? w _ hc
  have c19 := split44 s w (by omega)
  have hne := pieces_ne 44 (tl s) []
  have hle := pieces_le 44 (tl s) []
  have hmem := pieces_mem 44 (tl s) []
  have hlen := pieces_len 44 (tl s) []
  rw [tl_size] at hlen hle
  have hV : Hid (setV (tl s) = setL (pieces 44 [] (tl s)) 0) := Lib.hid rfl
  obtain ⟨R, hR⟩ : ∃ R, setV (tl s) = R := ⟨_, rfl⟩
  obtain ⟨P, hP⟩ : ∃ P, pieces 44 [] (tl s) = P := ⟨_, rfl⟩
  rw [hP] at c19 hne hle hmem hlen hV
  rw [hR] at hV ⊢
  clear hR hP
  have hx : Hid (∀ x ∈ P, x.length ≤ 1000000 ∧ ∀ c ∈ x, c.toNat < 128) := Lib.hid (fun x hx => ⟨by have := hle x hx; simp at this; omega, fun c hc => by
    rcases hmem x c hx hc with h | h
    · cases h
    · exact ha c h⟩)
  have hpos : 0 < P.length := List.length_pos_iff.2 hne
  clear hle hmem hne ha
  obtain ⟨n, hn⟩ : ∃ n, P.length = n := ⟨_, rfl⟩
  have hn2 : Hid (P.length = n) := hn
  have hlen2 : n ≤ 1000001 := by omega
  rw [hn] at hpos c19
  clear hn hlen
  go_enter Tryd.func14, Tryd.ntmps14
  go_wp2_with (go_at_call 19; refine c19.mono ?_; rintro e w1 ⟨v, rfl, O1, h1⟩; obtain ⟨gp, cap, rfl, _, _⟩ := O1.form hpos)
  have hO1 : Hid (∀ (i : Nat) (x : List UInt8) (W : World), P[i]? = some x → Below w1.heap.size w1 W → W.cell? ⟨gp, i, none⟩ = some (.string (strB x))) := Lib.hid (fun i x W hi hb => row_cell O1 hi hb)
  have hE1 : Hid (Ev w1) := hE.below h1
  have h1h : Hid (Below w.heap.size w w1) := h1
  clear O1 c19 h1 hE
  go_loopg [5, 15] n (fun gf s5 s15 wx => ∃ (i m : Nat), s15 = .int .i64 (i : Int) ∧ s5 = .int .u64 (m : Int) ∧ Below w1.heap.size w1 wx ∧ Hid (i ≤ n ∧ n ≤ i + gf ∧ m < 2 ^ 64 ∧ R = setL (P.drop i) m))
  case atStart => exact ⟨0, 0, rfl, rfl, Below.refl _ _, Lib.hid ⟨by omega, by omega, by omega, hV.out⟩⟩
  case round =>
    obtain ⟨i, m, rfl, rfl, HB, hH⟩ := hrel
    clear hV
    obtain ⟨hi1, hi2, hm, hRm⟩ := hH.out
    have hEr := hE1.out.below HB
    have hbw := (h1h.out.trans (HB.mono h1h.out.size))
    by_cases hin : i = n
    · have hR2 : R = some m := by
        rw [hRm, List.drop_eq_nil_of_le (by rw [hn2.out, hin]; exact Nat.le_refl _)]
        rfl
      have hcr := (hbw.cell hbl).trans hc
      have hfr : wr.frozen? ⟨b, 0, none⟩ = false := (hbw.frozen (p := ⟨b, 0, none⟩) hbl).trans hf
      have hend := World.cell?_setCell_same' wr ⟨b, 0, none⟩ (.int .u64 (m : Int)) (by rw [hcr]; rfl)
      have hend2 : Hid ((wr.setCell ⟨b, 0, none⟩ (.int .u64 (m : Int))).cell? ⟨b, 0, none⟩ = some (.int .u64 (m : Int)) ∧ Below b w (wr.setCell ⟨b, 0, none⟩ (.int .u64 (m : Int)))) := Lib.hid ⟨hend, (hbw.mono (Nat.le_of_lt hbl)).setCell (Nat.le_refl _) _⟩
      subst hin
      clear hH hRm hx hO1 hend
      go_wp2
      go_ret
      exact ⟨_, rfl, by rw [hR2]; exact ⟨rfl, hend2.out.1⟩, hend2.out.2⟩
    · have hi3 : i < n := by omega
      have hi3z : (i : Int) < (n : Int) := by omega
      have hip : i < P.length := by rw [hn2.out]; exact hi3
      obtain ⟨x, hxi⟩ : ∃ x, P[i]? = some x := ⟨_, List.getElem?_eq_getElem hip⟩
      obtain ⟨g', rfl⟩ : ∃ g', gk = g' + 1 := ⟨gk - 1, by omega⟩
      have kc := hO1.out i x wr hxi HB
      obtain ⟨hxl, hxa⟩ := hx.out x (List.mem_of_getElem? hxi)
      have c20 := fun W (h : Ev W) => trim20 (strB x) W (by rw [size_strB]; omega) (by rw [tl_strB]; exact hxa) h
      rw [tl_strB] at c20
      have c22 := fun W (h : Ev W) => parse22 (strB (Lib.trimSpace x)) W (by rw [size_strB]; have := trim_len x; omega) h
      rw [tl_strB] at c22
      obtain ⟨v, tb, hf, hv1, hv2⟩ := nt_tot (strB (Lib.trimSpace x))
      have c21 := fun W => encoder_nameToEncoding.calls (strB (Lib.trimSpace x)) v tb W hf
      have hst := set_step (m := m) hxi
      have hpv : pieceV x = if tb = true then some v.toNat else numE (Lib.trimSpace x) := by
        unfold pieceV
        rw [hf]
        cases tb <;> rfl
      have hlt := fun u (h : pieceV x = some u) => pieceV_lt h
      rw [← hRm] at hst
      obtain ⟨t, ht⟩ : ∃ t, strB (Lib.trimSpace x) = t := ⟨_, rfl⟩
      rw [ht] at c20 c21 c22
      obtain ⟨T, hT⟩ : ∃ T, Lib.trimSpace x = T := ⟨_, rfl⟩
      rw [hT] at hpv c22
      have hrl : Hid (i + 1 ≤ n ∧ n ≤ i + 1 + g') := Lib.hid ⟨by omega, by omega⟩
      have hiw : wrap64 ((i : Int) + 1) = ((i + 1 : Nat) : Int) := w64n (k := 1) (by omega)
      clear hxi hxl hxa hf ht hT hRm hH hip hi1 hi2 hin hi3 hx
      cases tb with
      | true =>
        rw [if_pos rfl] at hpv
        have hst2 : R = setL (P.drop (i + 1)) (m ||| v.toNat) := by rw [hst, hpv]
        have hl2 := hlt _ hpv
        have hor := or64 m v.toNat hm hl2
        rw [Int.toNat_of_nonneg hv1] at hor
        have hH2 : Hid (i + 1 ≤ n ∧ n ≤ i + 1 + g' ∧ (m ||| v.toNat) < 2 ^ 64 ∧ R = setL (P.drop (i + 1)) (m ||| v.toNat)) := Lib.hid ⟨hrl.out.1, hrl.out.2, Nat.or_lt_two_pow hm hl2, hst2⟩
        clear hpv hst hst2 hl2 hlt c22 hm
        go_wp2_with (first | (go_at_call 20; refine (c20 _ hEr).mono ?_; rintro e w2 ⟨rfl, h2⟩) | (go_at_call 21; refine (c21 _).mono ?_; rintro e w3 ⟨rfl, kd, rfl⟩))
        go_roundg g'
        case measure => exact Nat.lt_succ_self _
        case rel => exact ⟨i + 1, _, by first | rfl | simp, rfl, HB.trans ((h2.mono HB.size).trans (below_drewN' (Below.refl _ _) kd)), hH2⟩
      | false =>
        rw [if_neg (by decide)] at hpv
        obtain ⟨r, hr⟩ : ∃ r, numE T = r := ⟨_, rfl⟩
        rw [hr] at hpv c22
        clear hr
        cases r with
        | some u =>
          have hst2 : R = setL (P.drop (i + 1)) (m ||| u) := by rw [hst, hpv]
          have hl2 := hlt _ hpv
          have hor := or64 m u hm hl2
          have hH2 : Hid (i + 1 ≤ n ∧ n ≤ i + 1 + g' ∧ (m ||| u) < 2 ^ 64 ∧ R = setL (P.drop (i + 1)) (m ||| u)) := Lib.hid ⟨hrl.out.1, hrl.out.2, Nat.or_lt_two_pow hm hl2, hst2⟩
          clear hpv hst hst2 hl2 hlt hm
          go_wp2_with (first | (go_at_call 20; refine (c20 _ hEr).mono ?_; rintro e w2 ⟨rfl, h2⟩; have hE2 := hEr.below h2; have hB2 := HB.trans (h2.mono HB.size)) | (go_at_call 21; refine (c21 _).mono ?_; rintro e w3 ⟨rfl, kd, rfl⟩; have hE3 := hE2.below (below_drewN' (Below.refl _ _) kd); have hB3 := below_drewN' hB2 kd) | (go_at_call 22; refine (c22 _ hE3).mono ?_; rintro e w4 ⟨y, er, rfl, ⟨rfl, rfl⟩, h4⟩))
          go_roundg g'
          case measure => exact Nat.lt_succ_self _
          case rel => exact ⟨i + 1, _, by first | rfl | simp, rfl, hB3.trans (h4.mono hB3.size), hH2⟩
        | none =>
          have hR2 : R = none := by rw [hst, hpv]
          have c23 := fun s W => new23 s W
          have hcr := Lib.hid (fun W (h : Below w1.heap.size w1 W) => (((h1h.out.trans (h.mono h1h.out.size)).cell hbl).trans hc : W.cell? ⟨b, 0, none⟩ = some (.int .u64 old)))
          have hbe := Lib.hid (fun W (h : Below w1.heap.size w1 W) => ((h1h.out.trans (h.mono h1h.out.size)).mono (Nat.le_of_lt hbl) : Below b w W))
          clear hpv hst hlt hm hc
          go_wp2_with (first | (go_at_call 20; refine (c20 _ hEr).mono ?_; rintro e w2 ⟨rfl, h2⟩; have hE2 := hEr.below h2; have hB2 := HB.trans (h2.mono HB.size)) | (go_at_call 21; refine (c21 _).mono ?_; rintro e w3 ⟨rfl, kd, rfl⟩; have hE3 := hE2.below (below_drewN' (Below.refl _ _) kd); have hB3 := below_drewN' hB2 kd) | (go_at_call 22; refine (c22 _ hE3).mono ?_; rintro e w4 ⟨y, er, rfl, ⟨pe, rfl⟩, h4⟩; have hB4 := hB3.trans (h4.mono hB3.size)) | (go_at_call 23; refine (c23 _ _).mono ?_; rintro e w5 ⟨rfl, h5⟩; have hB5 := hB4.trans (h5.mono hB4.size)))
          go_ret
          exact ⟨_, rfl, by first | (rw [hR2]; exact ⟨⟨_, _, rfl⟩, hcr.out _ hB5⟩) | exact ⟨⟨_, _, rfl⟩, hcr.out _ hB5⟩, hbe.out _ hB5⟩
set_option maxHeartbeats 4000000 in
set_option maxRecDepth 100000 in
/-- impl.MaskSet. -/
theorem mset10 (m : Int) (s : ByteArray) (w : World) (hs : s.size ≤ 1000000) (ha : ∀ c ∈ tl s, c.toNat < 128) (hE : Ev w) :
    Calls Tryd.prog 10 #[.int .u64 m, .string s] w fun e w' => e = .returned (match setV (tl s) with | some n => .tuple #[.int .u64 (n : Int), .bool true] | none => .tuple #[.int .u64 m, .bool false]) ∧ Below w.heap.size w w' := by
  have hbW : Below w.heap.size w (w.alloc (.cells #[.int .u64 m] 31)) := (Below.refl _ w).alloc (Nat.le_refl _) _
  have hnew := heap_alloc_new w (.cells #[.int .u64 m] 31)
  have c14 := set14 s w.heap.size m (w.alloc (.cells #[.int .u64 m] 31)) hs ha (hE.below hbW) (by rw [Lib.cell_of_heap hnew]; rfl) (World.frozen?_alloc_at _ _ _ 0 rfl)
  obtain ⟨R, hR⟩ : ∃ R, setV (tl s) = R := ⟨_, rfl⟩
  rw [hR] at c14 ⊢
  have hg2 : Hid (Below w.heap.size w (w.alloc (.cells #[.int .u64 m] 31))) := hbW
  clear hbW hnew hE hR
  cases R with
  | some n =>
    go_enter Tryd.func10, Tryd.ntmps10
    go_wp2_with (go_at_call 14; refine c14.mono ?_; rintro e w2 ⟨v, rfl, ⟨rfl, hc2⟩, h2⟩)
    have hb3 := Lib.hid (hg2.out.trans h2)
    obtain ⟨g, hg⟩ : ∃ g, w.heap.size = g := ⟨_, rfl⟩
    rw [hg] at hc2 ⊢
    clear hg h2
    have y0 : ∀ n', (w2.drewN n').cell? ⟨g, 0, none⟩ = some (.int .u64 (n : Int)) := fun n' => by
      have := (below_drewN' (Below.refl w2.heap.size w2) n').cell (p := ⟨g, 0, none⟩) (World.block_lt_of_cell? w2 _ hc2)
      rw [this, hc2]
    clear hc2 c14
    go_quiet (fail)
    go_wp2_with fail
    go_ret2
    exact ⟨rfl, below_drewN' hb3.out _⟩
  | none =>
    go_enter Tryd.func10, Tryd.ntmps10
    go_wp2_with (go_at_call 14; refine c14.mono ?_; rintro e w2 ⟨v, rfl, ⟨⟨te, pe, rfl⟩, hc2⟩, h2⟩)
    have hb3 := Lib.hid (hg2.out.trans h2)
    obtain ⟨g, hg⟩ : ∃ g, w.heap.size = g := ⟨_, rfl⟩
    rw [hg] at hc2 ⊢
    clear hg h2
    have y0 : ∀ n', (w2.drewN n').cell? ⟨g, 0, none⟩ = some (.int .u64 m) := fun n' => by
      have := (below_drewN' (Below.refl w2.heap.size w2) n').cell (p := ⟨g, 0, none⟩) (World.block_lt_of_cell? w2 _ hc2)
      rw [this, hc2]
    clear hc2 c14
    go_quiet (fail)
    go_wp2_with fail
    go_ret2
    exact ⟨rfl, below_drewN' hb3.out _⟩
end Go.Proofs.YtjabjcgomnjpcaaDoor.Given
