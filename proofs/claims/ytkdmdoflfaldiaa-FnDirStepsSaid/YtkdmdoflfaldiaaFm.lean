/- The walk of a directory cache's method FlushDir: all paths that are a directory or below it go, and the IDs that they had. Up to 1,000,000 bytes a path. -/
import Derived.Test.YtkdmdoflfaldiaaFl
namespace Go.Proofs.Ytkdmdoflfaldiaa.Given
open Go.RowKit Go.WideMaps Go.Maps Go.Proofs.YtkdmdoflfaldiaaW.PrintWords Go.Proofs.Ytkdmdoflfaldiaa.PD
set_option linter.unusedVariables false
set_option linter.unusedSimpArgs false

theorem e_em {b : ByteArray} (h : b ≠ ⟨#[]⟩) : b.toList.isEmpty = false := by
  rw [ByteArray.toList_eq]
  cases hl : b.data.toList with
  | nil => exact absurd (ByteArray.ext (by rw [← Array.toList_inj]; simpa using hl)) h
  | cons x r => rfl
theorem e_ne {b : ByteArray} (h : b ≠ ⟨#[]⟩) : (b.toList == ([] : List UInt8)) = false := by
  have := e_em h
  cases hl : b.toList with
  | nil => rw [hl] at this; cases this
  | cons x r => rfl
theorem dBelow {w w' : World} (h : Drawn0 w w') (row : Option Nat) : w.grownBy w' row := ⟨h.below.os, h.below.tape, h.below.output, h.below.size, fun k hk _ => h.below.block k hk⟩
/-- What the loop holds. -/
structure FL (w0 w : World) (d p q n R : Nat) (id dl : ByteArray) (f1 g1 : Fs) (left : Lit → Bool) (cnt : Nat) (D : DataW Unit) : Prop where
  rg : w.ranges Try.prog 9 (plainElem Try.prog 9) p R n D left cnt
  sy : Says D (cuF f1 dl left)
  mq : MapOf w q n (cuG f1 g1 dl left)
  hC : ∃ r1 r2 r3 b, w.heap[d]? = some (.cells #[.map (some p), .map (some q), .string id, .string r1, .string r2, .string r3, .bool b] 62 (0, 0))
  kp : Keep (But d p q) w0 w
  nR : w0.heap.size ≤ R
theorem FL.step {w0 w w' : World} {d p q n R : Nat} {id dl : ByteArray} {f1 g1 : Fs} {left : Lit → Bool} {cnt : Nat} {D : DataW Unit} (h : FL w0 w d p q n R id dl f1 g1 left cnt D) (hd : d < w0.heap.size) (hq : q < w0.heap.size)
    (hg : w.grownBy w' (some R)) {left' : Lit → Bool} {cnt' : Nat} (hr : w'.ranges Try.prog 9 (plainElem Try.prog 9) p R n D left' cnt') :
    MapOf w' q n (cuG f1 g1 dl left) ∧ (∃ r1 r2 r3 b, w'.heap[d]? = some (.cells #[.map (some p), .map (some q), .string id, .string r1, .string r2, .string r3, .bool b] 62 (0, 0))) ∧ Keep (But d p q) w0 w' := by
  have hR := h.nR
  obtain ⟨r1, r2, r3, b, hc⟩ := h.hC
  refine ⟨h.mq.kept (hg.block q h.mq.lt (fun e => by have := Option.some.inj e; omega)), ⟨r1, r2, r3, b, (hg.block d (ltH hc) (fun e => by have := Option.some.inj e; omega)).trans hc⟩, ?_⟩
  exact ⟨hg.os.trans h.kp.os, hg.tape.trans h.kp.tape, hg.output.trans h.kp.output, Nat.le_trans h.kp.size hg.size, fun k h1 h2 => (hg.block k (Nat.lt_of_lt_of_le h1 h.kp.size) (fun e => by have := Option.some.inj e; omega)).trans (h.kp.block k h1 h2)⟩

theorem val_small {w : World} {b n : Nat} {D : DataW Unit} {f : Fs} (ho : w.ownsMap Try.prog 9 (plainElem Try.prog 9) b n D) (hf : Says D f) {s i : ByteArray} (hs : s.size ≤ 1000000) (hi : f s = some i) : i.size ≤ maxLen := by
  obtain ⟨v, ps, hrun, hv⟩ := ho.look_ok (t := 60) law9 Try.underlying60 (zero9 w) (plainElem_string Try.underlying9 (s := ⟨#[]⟩) (by decide)) (key_ok s hs)
  obtain ⟨a, rfl, ha, hl⟩ := plainElem_string_inv Try.underlying9 hv
  have h1 := congrArg Prod.fst ha
  simp only at h1
  have h2 := (hf s).2
  unfold kl at h1 h2
  rw [h2, hi] at h1
  injection h1 with h1
  injection h1 with h1
  have : a = i := ByteArray.ext (Array.toList_inj.1 h1.symm)
  rw [← this]
  exact hl

set_option maxHeartbeats 4000000 in
set_option maxRecDepth 100000 in
theorem fdir_any (d p q n : Nat) (id dir : ByteArray) (f g : Fs) (w : World) (h : Dir w d p q n id f g) (hne : dir ≠ ⟨#[]⟩) (hs : dir.size ≤ 1000000) :
    Calls Try.prog 23 #[.pointer (some ⟨d, 0, none⟩), .string dir] w fun e w' => e = .returned (.tuple #[]) ∧ Dir w' d p q n id (flF f dir) (flG f g dir) ∧ Keep (But d p q) w w' := by
  obtain ⟨r1, r2, r3, b, hc⟩ := h.hC
  obtain ⟨e1, e2⟩ := h.apart
  obtain ⟨ld, lp, lq⟩ := h.lt
  have hlk := h.hP.look dir hs
  have c0 := cellH hc 0 _ rfl
  have ee := e_ne hne
  have ee' := e_em hne
  -- the first deletes
  obtain ⟨f1, hf1⟩ : ∃ f1, f1 = del f dir := ⟨_, rfl⟩
  obtain ⟨g1, hg1⟩ : ∃ g1 : Fs, g1 = (match f dir with | some i => del g i | none => g) := ⟨_, rfl⟩
  have hf1' : (f dir).isSome = false → ∀ s, f s = f1 s := by
    intro hn s
    rw [hf1]
    unfold del
    by_cases e : s = dir
    · subst e
      rw [if_pos rfl]
      cases hv : f s with
      | none => rfl
      | some v => rw [hv] at hn; cases hn
    · rw [if_neg e]
  cases hfd : f dir with
  | none =>
    rw [hfd] at hlk hg1 hf1'
    simp only at hg1
    simp only [Option.getD_none, Option.isSome_none] at hlk
    have h1 : Dir w d p q n id f1 g1 := ⟨h.hC, h.hP.congr (hf1' rfl), by rw [hg1]; exact h.hQ, h.ne⟩
    obtain ⟨D, ho, hsay⟩ := h1.hP
    go_enter Try.func23, Try.ntmps23
    go_wp2_with (first
      | (at_range; refine wpList_range_own _ rfl _ 60 rfl 9 9 law9 Try.underlying60 _ p n D rfl ho ?_; intro w0 hrg0 hg0 hs0)
      | go_in)
    go_frame
    obtain ⟨R, hR⟩ : ∃ R, w.heap.size = R := ⟨_, rfl⟩
    rw [hR] at hrg0 ⊢
    have hst : FL w w0 d p q n R id (sl dir) f1 g1 (Maps.has D) (Maps.size D) D := by
      obtain ⟨s1, s2, s3, s4, hcc⟩ := h1.hC
      exact ⟨hrg0, hsay.congr (start_F hsay), (h1.hQ.kept (hg0.block q h1.hQ.lt (by simp))).congr (start_G hsay), ⟨s1, s2, s3, s4, (hg0.block d (ltH hcc) (by simp)).trans hcc⟩, ⟨hg0.os, hg0.tape, hg0.output, hg0.size, fun k hk _ => hg0.block k hk (by simp)⟩, by rw [← hR]; exact Nat.le_refl _⟩
    clear hrg0 hg0 hs0 hR
    go_loopw [6] (fun _ wr => ∃ left cnt D, FL w wr d p q n R id (sl dir) f1 g1 left cnt D) (fun _ wr => wr.rangeLeft p R)
    case atStart => exact ⟨_, _, _, hst⟩
    case round =>
      clear hst
      obtain ⟨left, cnt, D1, hFL⟩ := hrel
      go_wp2_with (first
        | (at_next; refine wpList_next_ranges _ rfl _ rfl 9 law9 (plainElem Try.prog 9) Value.string Value.string (fun key k hk => by obtain ⟨s, h, _⟩ := key_inv hk; exact ⟨s, h⟩) (fun v y hv => by obtain ⟨c, h, _⟩ := plainElem_string_inv Try.underlying9 hv; exact ⟨c, h⟩) p R n D1 left cnt rfl hFL.rg ?_ ?_)
        | go_in)
      · intro _ hl0
        go_wp2
        go_end0
        exact ⟨rfl, ⟨hFL.hC, ⟨D1, hFL.rg.owns, hFL.sy.congr (by rw [hf1]; exact end_F hl0)⟩, hFL.mq.congr (by intro i'; rw [hf1, hg1, ← end_G hl0 (f := f), hfd]), h.ne⟩, hFL.kp⟩
      · intro x c k0 y1 y2 w1 cnt1 hkx hlx hvc hat hrg1 hlt hgr1 hs1 hen
        obtain ⟨x', ex, rfl⟩ := key_inv hkx
        cases ex
        obtain ⟨c', ec, ez, hcl⟩ := plainElem_string_inv Try.underlying9 hvc
        cases ez
        cases ec
        have hat' : ∀ zd, D1.atKey (kl x) zd = .lit (kl c) := hat
        have hfx : f1 x = some c := come hFL.sy hlx hat' (Maps.has_true_of_atKey hat')
        obtain ⟨mq1, hC1, kp1⟩ := hFL.step ld lq hgr1 hrg1
        obtain ⟨s1, s2, s3, s4, hcc⟩ := hC1
        have nR := hFL.nR
        have dis : Hid (Says D1 (cuF f1 (sl dir) left)) := Lib.hid hFL.sy
        have lfe := hFL.rg.left_eq
        clear hFL hat hat' hvc
        cases hp : pre x (sl dir) with
        | true =>
          have hpx := pre_is x (sl dir)
          rw [hp] at hpx
          go_wp2_with (first
            | (go_at_call 34; go_must (refine (strings_HasPrefix.calls _ _ true _ hpx).mono ?_; rintro e w2 ⟨rfl, hdr⟩);
               have hrg2 := hrg1.kept (dBelow hdr none) (by simp) (by simp);
               have mq2 := mq1.kept (hdr.below.block q mq1.lt);
               have hc2 := (hdr.below.block d (ltH hcc)).trans hcc;
               have c20 := cellH hc2 0 _ rfl)
            | (at_delete; refine wpList_delete_ranges _ rfl _ _ 60 9 rfl 9 law9 Try.underlying60 _ p R n _ _ _ rfl hrg2 _ _ rfl hkx ?_; intro w3 cnt3 hrg3 hle hturn3; have hc3 := (hturn3.grown.block d (ltH hc2) (fun e => e1 (Option.some.inj e))).trans hc2; have mq3 := mq2.kept (hturn3.grown.block q mq2.lt (fun e => h.ne (Option.some.inj e).symm)); have c31 := cellH hc3 1 _ rfl; obtain ⟨D3, ho3, sy3⟩ := mq3; go_frame)
            | (at_delete; refine wpList_delete_own _ rfl _ _ 60 9 rfl 9 law9 Try.underlying60 _ q n D3 rfl ho3 _ _ rfl (keyOf_string_mk Try.underlying9 hcl) ?_; intro w4 hown4 hturn4; go_frame)
            | go_in)
          rw [Maps.strike_twice] at hrg3
          have hg4 := hturn4.grown
          have hrg4 := hrg3.kept hg4 (fun e => h.ne (Option.some.inj e)) (fun e => by have := Option.some.inj e; omega)
          have hc4 := (hg4.block d (ltH hc3) (fun e => e2 (Option.some.inj e))).trans hc3
          go_roundw
          case rel =>
            refine ⟨_, cnt3, _, hrg4, (dis.out.del x).congr (strike_F hp), ⟨_, hown4, (sy3.del c).congr (strike_G hp hfx)⟩, ⟨s1, s2, s3, s4, hc4⟩, ?_, nR⟩
            exact ((kp1.trans (Keep.ofBelow hdr.below (fun k hk _ => hk))).trans (Keep.grown hturn3.grown (fun k => k.2.1 rfl))).trans (Keep.grown hg4 (fun k => k.2.2 rfl))
          case measure => rw [hrg4.left_eq, lfe]; omega
        | false =>
          have hpx := pre_is x (sl dir)
          rw [hp] at hpx
          go_wp2_with (first
            | (go_at_call 34; go_must (refine (strings_HasPrefix.calls _ _ false _ hpx).mono ?_; rintro e w2 ⟨rfl, hdr⟩);
               have hrg2 := hrg1.kept (dBelow hdr none) (by simp) (by simp))
            | go_in)
          go_roundw
          case rel => exact ⟨_, cnt1, _, hrg2, dis.out.congr (stay_F hp), (mq1.kept (hdr.below.block q mq1.lt)).congr (stay_G hp), ⟨s1, s2, s3, s4, (hdr.below.block d (ltH hcc)).trans hcc⟩, kp1.trans (Keep.ofBelow hdr.below (fun k hk _ => hk)), nR⟩
          case measure => rw [hrg2.left_eq, lfe]; omega
  | some i =>
    rw [hfd] at hlk hg1
    simp only at hg1
    simp only [Option.getD_some, Option.isSome_some] at hlk
    obtain ⟨D0, ho0, hsay0⟩ := h.hP
    have hcl0 : i.size ≤ maxLen := val_small ho0 hsay0 hs hfd
    go_enter Try.func23, Try.ntmps23
    go_wp2_with (first
      | (at_delete; refine wpList_delete_own _ rfl _ _ 60 9 rfl 9 law9 Try.underlying60 _ p n D0 rfl ho0 _ _ rfl (key_ok dir hs) ?_; intro wa howna hturna; have hca := (hturna.grown.block d ld (fun e => e1 (Option.some.inj e))).trans hc; have mqa := h.hQ.kept (hturna.grown.block q lq (fun e => h.ne (Option.some.inj e).symm)); have ca1 := cellH hca 1 _ rfl; obtain ⟨Da, hoa, sya⟩ := mqa; go_frame)
      | (at_delete; refine wpList_delete_own _ rfl _ _ 60 9 rfl 9 law9 Try.underlying60 _ q n Da rfl hoa _ _ rfl (keyOf_string_mk Try.underlying9 hcl0) ?_; intro wb hownb hturnb; have hcb := (hturnb.grown.block d (ltH hca) (fun e => e2 (Option.some.inj e))).trans hca; have mpb : MapOf wb p n f1 := MapOf.kept ⟨_, howna, by rw [hf1]; exact hsay0.del dir⟩ (hturnb.grown.block p howna.lt (fun e => h.ne (Option.some.inj e))); have h1 : Dir wb d p q n id f1 g1 := ⟨⟨_, _, _, _, hcb⟩, mpb, ⟨_, hownb, by rw [hg1]; exact sya.del i⟩, h.ne⟩; have kb : Keep (But d p q) w wb := (Keep.grown hturna.grown (fun k => k.2.1 rfl)).trans (Keep.grown hturnb.grown (fun k => k.2.2 rfl)); have cb0 := cellH hcb 0 _ rfl; obtain ⟨D, ho, hsay⟩ := mpb; go_frame)
      | (at_range; refine wpList_range_own _ rfl _ 60 rfl 9 9 law9 Try.underlying60 _ p n D rfl ho ?_; intro w0 hrg0 hg0 hs0)
      | go_in)
    go_frame
    obtain ⟨R, hR⟩ : ∃ R, wb.heap.size = R := ⟨_, rfl⟩
    rw [hR] at hrg0 ⊢
    have hst : FL w w0 d p q n R id (sl dir) f1 g1 (Maps.has D) (Maps.size D) D := by
      obtain ⟨s1, s2, s3, s4, hcc⟩ := h1.hC
      exact ⟨hrg0, hsay.congr (start_F hsay), (h1.hQ.kept (hg0.block q h1.hQ.lt (by simp))).congr (start_G hsay), ⟨s1, s2, s3, s4, (hg0.block d (ltH hcc) (by simp)).trans hcc⟩, kb.trans ⟨hg0.os, hg0.tape, hg0.output, hg0.size, fun k hk _ => hg0.block k hk (by simp)⟩, by rw [← hR]; exact kb.size⟩
    clear hrg0 hg0 hs0 hR
    go_loopw [6] (fun _ wr => ∃ left cnt D, FL w wr d p q n R id (sl dir) f1 g1 left cnt D) (fun _ wr => wr.rangeLeft p R)
    case atStart => exact ⟨_, _, _, hst⟩
    case round =>
      clear hst
      obtain ⟨left, cnt, D1, hFL⟩ := hrel
      go_wp2_with (first
        | (at_next; refine wpList_next_ranges _ rfl _ rfl 9 law9 (plainElem Try.prog 9) Value.string Value.string (fun key k hk => by obtain ⟨s, h, _⟩ := key_inv hk; exact ⟨s, h⟩) (fun v y hv => by obtain ⟨c, h, _⟩ := plainElem_string_inv Try.underlying9 hv; exact ⟨c, h⟩) p R n D1 left cnt rfl hFL.rg ?_ ?_)
        | go_in)
      · intro _ hl0
        go_wp2
        go_end0
        exact ⟨rfl, ⟨hFL.hC, ⟨D1, hFL.rg.owns, hFL.sy.congr (by rw [hf1]; exact end_F hl0)⟩, hFL.mq.congr (by intro i'; rw [hf1, hg1, ← end_G hl0 (f := f), hfd]), h.ne⟩, hFL.kp⟩
      · intro x c k0 y1 y2 w1 cnt1 hkx hlx hvc hat hrg1 hlt hgr1 hs1 hen
        obtain ⟨x', ex, rfl⟩ := key_inv hkx
        cases ex
        obtain ⟨c', ec, ez, hcl⟩ := plainElem_string_inv Try.underlying9 hvc
        cases ez
        cases ec
        have hat' : ∀ zd, D1.atKey (kl x) zd = .lit (kl c) := hat
        have hfx : f1 x = some c := come hFL.sy hlx hat' (Maps.has_true_of_atKey hat')
        obtain ⟨mq1, hC1, kp1⟩ := hFL.step ld lq hgr1 hrg1
        obtain ⟨s1, s2, s3, s4, hcc⟩ := hC1
        have nR := hFL.nR
        have dis : Hid (Says D1 (cuF f1 (sl dir) left)) := Lib.hid hFL.sy
        have lfe := hFL.rg.left_eq
        clear hFL hat hat' hvc
        cases hp : pre x (sl dir) with
        | true =>
          have hpx := pre_is x (sl dir)
          rw [hp] at hpx
          go_wp2_with (first
            | (go_at_call 34; go_must (refine (strings_HasPrefix.calls _ _ true _ hpx).mono ?_; rintro e w2 ⟨rfl, hdr⟩);
               have hrg2 := hrg1.kept (dBelow hdr none) (by simp) (by simp);
               have mq2 := mq1.kept (hdr.below.block q mq1.lt);
               have hc2 := (hdr.below.block d (ltH hcc)).trans hcc;
               have c20 := cellH hc2 0 _ rfl)
            | (at_delete; refine wpList_delete_ranges _ rfl _ _ 60 9 rfl 9 law9 Try.underlying60 _ p R n _ _ _ rfl hrg2 _ _ rfl hkx ?_; intro w3 cnt3 hrg3 hle hturn3; have hc3 := (hturn3.grown.block d (ltH hc2) (fun e => e1 (Option.some.inj e))).trans hc2; have mq3 := mq2.kept (hturn3.grown.block q mq2.lt (fun e => h.ne (Option.some.inj e).symm)); have c31 := cellH hc3 1 _ rfl; obtain ⟨D3, ho3, sy3⟩ := mq3; go_frame)
            | (at_delete; refine wpList_delete_own _ rfl _ _ 60 9 rfl 9 law9 Try.underlying60 _ q n D3 rfl ho3 _ _ rfl (keyOf_string_mk Try.underlying9 hcl) ?_; intro w4 hown4 hturn4; go_frame)
            | go_in)
          rw [Maps.strike_twice] at hrg3
          have hg4 := hturn4.grown
          have hrg4 := hrg3.kept hg4 (fun e => h.ne (Option.some.inj e)) (fun e => by have := Option.some.inj e; omega)
          have hc4 := (hg4.block d (ltH hc3) (fun e => e2 (Option.some.inj e))).trans hc3
          go_roundw
          case rel =>
            refine ⟨_, cnt3, _, hrg4, (dis.out.del x).congr (strike_F hp), ⟨_, hown4, (sy3.del c).congr (strike_G hp hfx)⟩, ⟨s1, s2, s3, s4, hc4⟩, ?_, nR⟩
            exact ((kp1.trans (Keep.ofBelow hdr.below (fun k hk _ => hk))).trans (Keep.grown hturn3.grown (fun k => k.2.1 rfl))).trans (Keep.grown hg4 (fun k => k.2.2 rfl))
          case measure => rw [hrg4.left_eq, lfe]; omega
        | false =>
          have hpx := pre_is x (sl dir)
          rw [hp] at hpx
          go_wp2_with (first
            | (go_at_call 34; go_must (refine (strings_HasPrefix.calls _ _ false _ hpx).mono ?_; rintro e w2 ⟨rfl, hdr⟩);
               have hrg2 := hrg1.kept (dBelow hdr none) (by simp) (by simp))
            | go_in)
          go_roundw
          case rel => exact ⟨_, cnt1, _, hrg2, dis.out.congr (stay_F hp), (mq1.kept (hdr.below.block q mq1.lt)).congr (stay_G hp), ⟨s1, s2, s3, s4, (hdr.below.block d (ltH hcc)).trans hcc⟩, kp1.trans (Keep.ofBelow hdr.below (fun k hk _ => hk)), nR⟩
          case measure => rw [hrg2.left_eq, lfe]; omega
end Go.Proofs.Ytkdmdoflfaldiaa.Given
