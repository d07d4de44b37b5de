/- spec.ContentRange: what it answers. -/
import Derived.Test.YtkdmdoflfaldiaaDoorCn
import Derived.Test.YtkdmdoflfaldiaaDoorPCx34
namespace Go.Proofs.YtkdmdoflfaldiaaDoor.Given
open Go.RowKit Go.Proofs.YtkdmdoflfaldiaaDoorW.PrintWords Go.Proofs.YtkdmdoflfaldiaaDoorW.PrintLast Go.Proofs.YtkdmdoflfaldiaaDoorW.PrintMore Go.Proofs.YtkdmdoflfaldiaaDoor.PC
open Go.Proofs.YtkdmdoflfaldiaaDoor.Zp
set_option linter.unusedVariables false
set_option linter.unusedSimpArgs false

def figN (l : List UInt8) : Int := (figO l).getD 0
def figB (l : List UInt8) : Bool := (figO l).isSome
theorem bt_mid (A : List UInt8) (b : UInt8) (R : List UInt8) (i : Int) (h : i = (A.length : Int)) : bt (strB (A ++ b :: R)) i = (b.toNat : Int) := by
  subst h
  have hs : ((A.length : Int)).toNat < (strB (A ++ b :: R)).size := by rw [size_strB, List.length_append, List.length_cons]; omega
  rw [← bt_at _ _ hs]
  have : (strB (A ++ b :: R))[((A.length : Int)).toNat]'hs = b := by
    show (strB (A ++ b :: R)).data[((A.length : Int)).toNat]'hs = b
    simp [strB]
  rw [this]
theorem w64i {z : Int} (h1 : -9223372036854775808 ≤ z) (h2 : z ≤ 9223372036854775807) : wrap64 z = z := by unfold wrap64; omega
theorem fig_l0 {S : List UInt8} (hS : S.length ≤ 1000000000) : ∀ (R A : List UInt8) (n : Int), S = A ++ R → 0 ≤ n → n ≤ big63 →
    spec_figures.l0 (R.length + 1) (strB S) n (A.length : Int) = some (match figR R n with | some v => (v, (strB S).toList != ([] : List UInt8)) | none => (0, false))
  | [], A, n, h, h0, h1 => by
    have : S.length = A.length := by rw [h]; simp
    unfold spec_figures.l0 figR
    rw [size_strB, if_neg (by omega)]
  | b :: R, A, n, h, h0, h1 => by
    have hl : S.length = A.length + (R.length + 1) := by rw [h]; simp
    have hb := b.toNat_lt
    have hbt : bt (strB S) (A.length : Int) = (b.toNat : Int) := by rw [h]; exact bt_mid A b R _ rfl
    have e0 : wrap64 ((A.length : Int) + 1) = ((A.length + 1 : Nat) : Int) := w64n (k := 1) (by omega)
    have e1 : ((A ++ [b]).length : Int) = wrap64 ((A.length : Int) + 1) := by rw [e0]; simp
    have hb2 : (b.toNat : Int) < 256 := by omega
    have e2 : wrap64 ((wrap64 (b.toNat : Int)) - 48) = (b.toNat : Int) - 48 := by rw [w64i (z := (b.toNat : Int)) (by omega) (by omega), w64i (by omega) (by omega)]
    rw [show (b :: R).length + 1 = (R.length + 1) + 1 from rfl]
    unfold spec_figures.l0 figR
    rw [size_strB, if_pos (by omega), if_pos (by omega), hbt, e2]
    unfold big63 at h1 ⊢
    by_cases c1 : (b.toNat : Int) - 48 < 0
    · rw [if_pos c1, if_pos (.inl c1)]
    · rw [if_neg c1]
      by_cases c2 : (b.toNat : Int) - 48 > 9
      · rw [if_pos c2, if_pos (.inr (.inl c2))]
      · rw [if_neg c2]
        have e3 : wrap64 (9223372036854775807 - ((b.toNat : Int) - 48)) = 9223372036854775807 - ((b.toNat : Int) - 48) := w64i (by omega) (by omega)
        have e4 : wrap64 (Int.tdiv (9223372036854775807 - ((b.toNat : Int) - 48)) 10) = (9223372036854775807 - ((b.toNat : Int) - 48)) / 10 := by
          rw [Int.tdiv_eq_ediv_of_nonneg (by omega)]
          exact w64i (by omega) (by omega)
        rw [e3, e4]
        by_cases c3 : n > (9223372036854775807 - ((b.toNat : Int) - 48)) / 10
        · rw [if_pos c3, if_pos (.inr (.inr c3))]
        · rw [if_neg c3, if_neg (by omega)]
          have e5 : wrap64 (wrap64 (n * 10) + ((b.toNat : Int) - 48)) = n * 10 + ((b.toNat : Int) - 48) := by rw [w64i (z := n * 10) (by omega) (by omega), w64i (by omega) (by omega)]
          have ih := fig_l0 hS R (A ++ [b]) (n * 10 + ((b.toNat : Int) - 48)) (by rw [h]; simp) (by omega) (by unfold big63; omega)
          rw [e1] at ih
          rw [e5, ih]
theorem fig_f {l : List UInt8} (hl : l.length ≤ 1000000000) : spec_figures.f (l.length + 1) (strB l) = some (figN l, figB l) := by
  unfold spec_figures.f figN figB figO
  have h := fig_l0 hl l [] 0 rfl (by omega) (by unfold big63; omega)
  simp only [List.length_nil] at h
  rw [show ((0 : Nat) : Int) = 0 from rfl] at h
  rw [h]
  cases l with
  | nil =>
    have : (strB []).toList = [] := by rw [tl_eq, tl_strB]
    rw [this]
    rfl
  | cons b r =>
    rw [if_neg (List.cons_ne_nil _ _)]
    have : (strB (b :: r)).toList = b :: r := by rw [tl_eq, tl_strB]
    rw [this]
    cases figR (b :: r) 0 <;> rfl
theorem fig8 (l : List UInt8) (w : World) (hl : l.length ≤ 1000000000) : Calls Tryd.prog 8 #[.string (strB l)] w fun e w' => e = .returned (.tuple #[.int .i64 (figN l), .bool (figB l)]) ∧ Below w.heap.size w w' := by
  refine (spec_figures.calls (l.length + 1) (strB l) _ _ w (fig_f hl)).mono ?_
  rintro e w' ⟨rfl, n, rfl⟩
  exact ⟨rfl, below_drewN' (Below.refl _ _) n⟩
/-- The answer. -/
def ansS (r : Option (Int × Int × Int)) : Value := match r with
  | some (a, b, c) => .tuple #[.int .i64 a, .int .i64 b, .int .i64 c, .bool true]
  | none => .tuple #[.int .i64 0, .int .i64 0, .int .i64 0, .bool false]
theorem scan_rng : ∀ (l : List UInt8) (i d s : Int), 0 ≤ i → (-1 ≤ d ∧ d < i) → (-1 ≤ s ∧ s < i) → (-1 ≤ (scan l i d s).1 ∧ (scan l i d s).1 < i + l.length) ∧ (-1 ≤ (scan l i d s).2 ∧ (scan l i d s).2 < i + l.length)
  | [], i, d, s, h, hd, hs => by unfold scan; simp only [List.length_nil]; omega
  | b :: l, i, d, s, h, hd, hs => by
    unfold scan
    have := scan_rng l (i + 1) (if b = 45 ∧ d < 0 ∧ s < 0 then i else d) (if b = 47 ∧ s < 0 then i else s) (by omega) (by split <;> omega) (by split <;> omega)
    simp only [List.length_cons]
    omega
/-- The dash stands ahead of the slash. -/
theorem scan_lt : ∀ (l : List UInt8) (i d s : Int), 0 ≤ i → d < i → s < i → (0 ≤ d → 0 ≤ s → d < s) → 0 ≤ (scan l i d s).1 → 0 ≤ (scan l i d s).2 → (scan l i d s).1 < (scan l i d s).2
  | [], i, d, s, h, hd, hs, hl, h1, h2 => hl h1 h2
  | b :: l, i, d, s, h, hd, hs, hl, h1, h2 => by
    unfold scan at h1 h2 ⊢
    refine scan_lt l (i + 1) _ _ (by omega) (by split <;> omega) (by split <;> omega) ?_ h1 h2
    intro k1 k2
    by_cases c1 : b = 45 ∧ d < 0 ∧ s < 0
    · have c2 : ¬ (b = 47 ∧ s < 0) := by rintro ⟨e, _⟩; rw [c1.1] at e; exact absurd e (by decide)
      rw [if_pos c1] at k1 ⊢
      rw [if_neg c2] at k2 ⊢
      omega
    · rw [if_neg c1] at k1 ⊢
      by_cases c2 : b = 47 ∧ s < 0
      · rw [if_pos c2]; omega
      · rw [if_neg c2] at k2 ⊢
        exact hl k1 k2
theorem results_tmp4 {fn : Func} {t u v x : Tmp} (h : fn.results = #[.tmp t, .tmp u, .tmp v, .tmp x]) (tmps : Array Value) (P : Program) (w : World) :
    (results fn tmps).run P w = .ok (.tuple #[tmps.getD t undef, tmps.getD u undef, tmps.getD v undef, tmps.getD x undef]) w := by
  simp [results, h]
theorem scan_step {D : List UInt8} {i : Nat} (hi : i < D.length) (j d s : Int) : scan (D.drop i) j d s = scan (D.drop (i + 1)) (j + 1) (if D.getD i 0 = 45 ∧ d < 0 ∧ s < 0 then j else d) (if D.getD i 0 = 47 ∧ s < 0 then j else s) := by
  have e : D.getD i 0 = D[i] := by simp [List.getD, hi]
  rw [e]
  conv => lhs; rw [List.drop_eq_getElem_cons hi]
  rfl
set_option maxHeartbeats 8000000 in
set_option maxRecDepth 100000 in
theorem spec6 (s : ByteArray) (w : World) (hs : s.size ≤ 1000000) :
    Calls Tryd.prog 6 #[.string s] w fun e w' => e = .returned (ansS (spR (tl s))) ∧ Below w.heap.size w w' := by
  by_cases h6 : s.size < 6
  · have hn : spR (tl s) = none := by
      unfold spR
      rw [if_neg]
      intro e
      have := congrArg List.length e
      rw [List.length_take, tl_size] at this
      have h7 : unit6.length = 6 := rfl
      omega
    have k6 : (s.size : Int) < 6 := by omega
    rw [hn]
    clear hn h6
    go_enter Tryd.func6, Tryd.ntmps6
    go_wp2
    refine bodyPost_ret (results_tmp4 rfl _ _ _) rfl ?_
    exact ⟨rfl, Below.refl _ _⟩
  · have k6 : ((s.size : Int) < 6) = False := by simp; omega
    have k7 : (6 : Int) ≤ (s.size : Int) := by omega
    have hex := extract_take s 6
    have hel : (strB ((tl s).take 6)).toList = (tl s).take 6 := by rw [tl_eq, tl_strB]
    by_cases hu : (tl s).take 6 = unit6
    · have hn : spR (tl s) = spD ((tl s).drop 6) := by unfold spR; rw [if_pos hu]
      have hne : ((s.extract 0 6).toList == [98, 121, 116, 101, 115, 32]) = true := by rw [hex, hel, hu]; rfl
      have hex2 := extract_drop s 6
      have hDl : ((tl s).drop 6).length ≤ 1000000 := by rw [List.length_drop, tl_size]; omega
      obtain ⟨D, hD⟩ : ∃ D, (tl s).drop 6 = D := ⟨_, rfl⟩
      rw [hD] at hn hex2 hDl
      rw [hn]
      have hsD := size_strB D
      have hDl2 : Hid (D.length ≤ 1000000) := hDl
      have hsD2 : Hid ((strB D).size = D.length) := hsD
      clear hn hu hel hex hD hDl h6
      obtain ⟨R, hR⟩ : ∃ R, ansS (spD D) = R := ⟨_, rfl⟩
      have hR2 : Hid (ansS (spD D) = R) := hR
      rw [hR]
      clear hR
      go_enter Tryd.func6, Tryd.ntmps6
      go_wp2
      go_loopg [6, 7, 8] D.length (fun gf s6 s7 s8 wx => ∃ (i : Nat) (d t : Int), s6 = .int .i64 d ∧ s7 = .int .i64 t ∧ s8 = .int .i64 (i : Int) ∧ wx = w ∧ i ≤ D.length ∧ D.length ≤ i + gf ∧ Hid (scan D 0 (-1) (-1) = scan (D.drop i) (i : Int) d t))
      case atStart => exact ⟨0, -1, -1, rfl, rfl, rfl, rfl, Nat.zero_le _, by omega, Lib.hid (by rw [List.drop_zero]; rfl)⟩
      case round =>
        clear hne k6 k7 hex2 hsD hs
        obtain ⟨i, d, t, rfl, rfl, rfl, rfl, hi, hg, hH⟩ := hrel
        have hDl := hDl2.out
        have hsD := hsD2.out
        by_cases hin : i < D.length
        · obtain ⟨g', rfl⟩ : ∃ g', gk = g' + 1 := ⟨gk - 1, by omega⟩
          have w1 : wrap64 ((i : Int) + 1) = ((i + 1 : Nat) : Int) := w64n (k := 1) (by omega)
          have c1 : (i : Int) < ((strB D).size : Int) := by rw [hsD]; omega
          have hin2 : i < (strB D).size := by rw [hsD]; exact hin
          have hgi2 : Hid (i + 1 ≤ D.length ∧ D.length ≤ i + 1 + g') := Lib.hid (by omega)
          have hst := scan_step hin (i : Int) d t
          have hby : (strB D)[i]'hin2 = D.getD i 0 := by
            show (strB D).data[i]'hin2 = _
            simp [strB, List.getD, hin]
          obtain ⟨b, hb⟩ : ∃ b, D.getD i 0 = b := ⟨_, rfl⟩
          rw [hb] at hst hby
          have hH2 : Hid (scan D 0 (-1) (-1) = scan (D.drop (i + 1)) ((i + 1 : Nat) : Int) (if b = 45 ∧ d < 0 ∧ t < 0 then (i : Int) else d) (if b = 47 ∧ t < 0 then (i : Int) else t)) := hH.out.trans hst
          have nat : ∀ k : Nat, k < 256 → ((((strB D)[i]'hin2).toNat : Int) == (k : Int)) = decide (b = UInt8.ofNat k) := by
            intro k hk
            rw [hby]
            by_cases h : b = UInt8.ofNat k
            · rw [decide_eq_true h, h, beq_iff_eq]
              simp
              omega
            · rw [decide_eq_false h, beq_eq_false_iff_ne]
              intro e
              apply h
              have : b.toNat = k := by omega
              rw [← this]
              exact (UInt8.ofNat_toNat).symm
          have n45 := nat 45 (by decide)
          have n47 := nat 47 (by decide)
          rw [show ((45 : Nat) : Int) = 45 from rfl, show UInt8.ofNat 45 = 45 from rfl] at n45
          rw [show ((47 : Nat) : Int) = 47 from rfl, show UInt8.ofNat 47 = 47 from rfl] at n47
          clear nat hst hby hb hH hi hg hDl2 hsD2
          by_cases b45 : b = 45
          · have hx : ¬ (b = 47 ∧ t < 0) := by rintro ⟨e, _⟩; rw [b45] at e; exact absurd e (by decide)
            rw [if_neg hx] at hH2
            rw [decide_eq_true b45] at n45
            rw [decide_eq_false (by rw [b45]; decide)] at n47
            by_cases hd : d < 0
            · by_cases ht : t < 0
              · rw [if_pos ⟨b45, hd, ht⟩] at hH2
                have hd' : (d < 0) = True := eq_true hd
                have ht' : (t < 0) = True := eq_true ht
                clear b45 hx hd ht
                go_wp2
                go_roundg g'
                case measure => omega
                case rel => exact ⟨i + 1, i, t, rfl, rfl, by simp, rfl, hgi2.out.1, hgi2.out.2, hH2⟩
              · rw [if_neg (fun e => ht e.2.2)] at hH2
                have hd' : (d < 0) = True := eq_true hd
                have ht' : (t < 0) = False := eq_false ht
                clear b45 hx hd ht
                go_wp2
                go_roundg g'
                case measure => omega
                case rel => exact ⟨i + 1, d, t, rfl, rfl, by simp, rfl, hgi2.out.1, hgi2.out.2, hH2⟩
            · rw [if_neg (fun e => hd e.2.1)] at hH2
              have hd' : (d < 0) = False := eq_false hd
              clear b45 hx hd
              go_wp2
              go_roundg g'
              case measure => omega
              case rel => exact ⟨i + 1, d, t, rfl, rfl, by simp, rfl, hgi2.out.1, hgi2.out.2, hH2⟩
          · rw [if_neg (fun e => b45 e.1)] at hH2
            rw [decide_eq_false b45] at n45
            by_cases b47 : b = 47
            · rw [decide_eq_true b47] at n47
              by_cases ht : t < 0
              · rw [if_pos ⟨b47, ht⟩] at hH2
                have ht' : (t < 0) = True := eq_true ht
                clear b45 b47 ht
                go_wp2
                go_roundg g'
                case measure => omega
                case rel => exact ⟨i + 1, d, i, rfl, rfl, by simp, rfl, hgi2.out.1, hgi2.out.2, hH2⟩
              · rw [if_neg (fun e => ht e.2)] at hH2
                have ht' : (t < 0) = False := eq_false ht
                clear b45 b47 ht
                go_wp2
                go_roundg g'
                case measure => omega
                case rel => exact ⟨i + 1, d, t, rfl, rfl, by simp, rfl, hgi2.out.1, hgi2.out.2, hH2⟩
            · rw [if_neg (fun e => b47 e.1)] at hH2
              rw [decide_eq_false b47] at n47
              clear b45 b47
              go_wp2
              go_roundg g'
              case measure => omega
              case rel => exact ⟨i + 1, d, t, rfl, rfl, by simp, rfl, hgi2.out.1, hgi2.out.2, hH2⟩
        · have hie : i = D.length := by omega
          have c1 : ((i : Int) < ((strB D).size : Int)) = False := by rw [hsD]; simp; omega
          have hsc : scan D 0 (-1) (-1) = (d, t) := by
            rw [hH.out, hie, List.drop_length]
            rfl
          have hrg := scan_rng D 0 (-1) (-1) (by omega) (by omega) (by omega)
          have hlt := scan_lt D 0 (-1) (-1) (by omega) (by omega) (by omega) (by omega)
          have hsp : spD D = if d < 0 ∨ t < 0 then none else threeS (D.take d.toNat) ((D.take t.toNat).drop (d.toNat + 1)) (D.drop (t.toNat + 1)) := by unfold spD; rw [hsc]
          rw [hsc] at hrg hlt
          dsimp only at hrg hlt
          have hRs : Hid (ansS (if d < 0 ∨ t < 0 then none else threeS (D.take d.toNat) ((D.take t.toNat).drop (d.toNat + 1)) (D.drop (t.toNat + 1))) = R) := Lib.hid (by rw [← hR2.out, hsp])
          clear hH hsc hsp hR2
          by_cases hd : d < 0
          · have hd' : (d < 0) = True := eq_true hd
            have hRn : Hid (ansS none = R) := Lib.hid (by rw [← hRs.out, if_pos (.inl hd)])
            clear hd hrg hlt hie hi hg hin hsD hDl hRs
            go_wp2
            refine bodyPost_ret (results_tmp4 rfl _ _ _) rfl ?_
            exact ⟨congrArg Ending.returned hRn.out, Below.refl _ _⟩
          · have hd' : (d < 0) = False := eq_false hd
            by_cases ht : t < 0
            · have ht' : (t < 0) = True := eq_true ht
              have hRn : Hid (ansS none = R) := Lib.hid (by rw [← hRs.out, if_pos (.inr ht)])
              clear hd ht hrg hlt hie hi hg hin hsD hDl hRs
              go_wp2
              refine bodyPost_ret (results_tmp4 rfl _ _ _) rfl ?_
              exact ⟨congrArg Ending.returned hRn.out, Below.refl _ _⟩
            · have ht' : (t < 0) = False := eq_false ht
              have hRs2 := hRs.out
              rw [if_neg (by omega)] at hRs2
              clear hRs
              obtain ⟨dn, rfl⟩ : ∃ dn : Nat, d = (dn : Int) := ⟨d.toNat, by omega⟩
              obtain ⟨tn, rfl⟩ : ∃ tn : Nat, t = (tn : Int) := ⟨t.toNat, by omega⟩
              have hdt : dn < tn := by have := hlt (by omega) (by omega); omega
              have htD : tn < D.length := by omega
              rw [Int.toNat_natCast, Int.toNat_natCast] at hRs2
              have e1 := extract_take (strB D) dn
              have e2 := extract_is (strB D) (dn + 1) tn
              have e3 := extract_drop (strB D) (tn + 1)
              rw [tl_strB] at e1 e2 e3
              have cP := fun W => fig8 (D.take dn) W (by rw [List.length_take]; omega)
              have cQ := fun W => fig8 ((D.take tn).drop (dn + 1)) W (by rw [List.length_drop, List.length_take]; omega)
              have cY := fun W => fig8 (D.drop (tn + 1)) W (by rw [List.length_drop]; omega)
              have hyL : (strB (D.drop (tn + 1))).toList = D.drop (tn + 1) := by rw [tl_eq, tl_strB]
              obtain ⟨p, hp⟩ : ∃ p, D.take dn = p := ⟨_, rfl⟩
              obtain ⟨q, hq⟩ : ∃ q, (D.take tn).drop (dn + 1) = q := ⟨_, rfl⟩
              obtain ⟨y, hy⟩ : ∃ y, D.drop (tn + 1) = y := ⟨_, rfl⟩
              rw [hp] at e1 cP hRs2
              rw [hq] at e2 cQ hRs2
              rw [hy] at e3 cY hyL hRs2
              have hRs : Hid (ansS (threeS p q y) = R) := hRs2
              clear hRs2
              have w1 : wrap64 ((dn : Int) + 1) = ((dn + 1 : Nat) : Int) := w64n (k := 1) (by omega)
              have w2 : wrap64 ((tn : Int) + 1) = ((tn + 1 : Nat) : Int) := w64n (k := 1) (by omega)
              have k1 : (dn : Int) ≤ ((strB D).size : Int) := by rw [hsD]; omega
              have k2 : ((dn + 1 : Nat) : Int) ≤ (tn : Int) := by omega
              have k3 : (tn : Int) ≤ ((strB D).size : Int) := by rw [hsD]; omega
              have k4 : ((tn + 1 : Nat) : Int) ≤ ((strB D).size : Int) := by rw [hsD]; omega
              obtain ⟨S, hS⟩ : ∃ S, strB D = S := ⟨_, rfl⟩
              rw [hS] at e1 e2 e3 k1 k3 k4 c1 ⊢
              clear hd ht hrg hlt hie hi hg hin hp hq hy hS hdt htD hsD hDl hsD2 hDl2
              cases hA : figO p with
              | none =>
                rw [show figN p = 0 by unfold figN; rw [hA]; rfl, show figB p = false by unfold figB; rw [hA]; rfl] at cP
                have hn : threeS p q y = none := by unfold threeS; rw [hA]
                have hRn : Hid (ansS (none) = R) := Lib.hid (by rw [← hRs.out, hn])
                obtain ⟨qn, hqn⟩ : ∃ x, figN q = x := ⟨_, rfl⟩
                obtain ⟨qb, hqb⟩ : ∃ x, figB q = x := ⟨_, rfl⟩
                obtain ⟨yn, hyn⟩ : ∃ x, figN y = x := ⟨_, rfl⟩
                obtain ⟨yb, hyb⟩ : ∃ x, figB y = x := ⟨_, rfl⟩
                rw [hqn, hqb] at cQ
                rw [hyn, hyb] at cY
                obtain ⟨ye, hye⟩ : ∃ x, ((strB y).toList == [42]) = x := ⟨_, rfl⟩
                clear hn hA hqn hqb hyn hyb hyL
                cases ye <;> (
                  go_wp2_with (first | (go_at_call 8; refine (cP _).mono ?_; rintro e w1 ⟨rfl, h1⟩; clear cP) | (go_at_call 8; refine (cQ _).mono ?_; rintro e w2 ⟨rfl, h2⟩; clear cQ) | (go_at_call 8; refine (cY _).mono ?_; rintro e w3 ⟨rfl, h3⟩; clear cY))
                  refine bodyPost_ret (results_tmp4 rfl _ _ _) rfl ?_
                  exact ⟨congrArg Ending.returned hRn.out, (h1.trans (h2.mono h1.size)).trans (h3.mono (h1.trans (h2.mono h1.size)).size)⟩)
              | some a =>
                rw [show figN p = a by unfold figN; rw [hA]; rfl, show figB p = true by unfold figB; rw [hA]; rfl] at cP
                cases hB : figO q with
                | none =>
                  rw [show figN q = 0 by unfold figN; rw [hB]; rfl, show figB q = false by unfold figB; rw [hB]; rfl] at cQ
                  have hn : threeS p q y = none := threeS_q hB
                  have hRn : Hid (ansS (none) = R) := Lib.hid (by rw [← hRs.out, hn])
                  obtain ⟨yn, hyn⟩ : ∃ x, figN y = x := ⟨_, rfl⟩
                  obtain ⟨yb, hyb⟩ : ∃ x, figB y = x := ⟨_, rfl⟩
                  rw [hyn, hyb] at cY
                  obtain ⟨ye, hye⟩ : ∃ x, ((strB y).toList == [42]) = x := ⟨_, rfl⟩
                  clear hn hA hB hyn hyb hyL
                  cases ye <;> (
                    go_wp2_with (first | (go_at_call 8; refine (cP _).mono ?_; rintro e w1 ⟨rfl, h1⟩; clear cP) | (go_at_call 8; refine (cQ _).mono ?_; rintro e w2 ⟨rfl, h2⟩; clear cQ) | (go_at_call 8; refine (cY _).mono ?_; rintro e w3 ⟨rfl, h3⟩; clear cY))
                    refine bodyPost_ret (results_tmp4 rfl _ _ _) rfl ?_
                    exact ⟨congrArg Ending.returned hRn.out, (h1.trans (h2.mono h1.size)).trans (h3.mono (h1.trans (h2.mono h1.size)).size)⟩)
                | some b =>
                  rw [show figN q = b by unfold figN; rw [hB]; rfl, show figB q = true by unfold figB; rw [hB]; rfl] at cQ
                  by_cases hy : y = [42]
                  · have hye : ((strB y).toList == [42]) = true := by rw [hyL, hy]; rfl
                    obtain ⟨yn, hyn⟩ : ∃ x, figN y = x := ⟨_, rfl⟩
                    obtain ⟨yb, hyb⟩ : ∃ x, figB y = x := ⟨_, rfl⟩
                    rw [hyn, hyb] at cY
                    by_cases hba : b < a
                    · have hn : threeS p q y = none := by unfold threeS; rw [hA, hB, if_pos hy]; dsimp only; rw [if_pos (.inl hba)]
                      have hba' : (b < a) = True := eq_true hba
                      have hRn : Hid (ansS (none) = R) := Lib.hid (by rw [← hRs.out, hn])
                      clear hn hA hB hyn hyb hyL hy hba
                      go_wp2_with (first | (go_at_call 8; refine (cP _).mono ?_; rintro e w1 ⟨rfl, h1⟩; clear cP) | (go_at_call 8; refine (cQ _).mono ?_; rintro e w2 ⟨rfl, h2⟩; clear cQ) | (go_at_call 8; refine (cY _).mono ?_; rintro e w3 ⟨rfl, h3⟩; clear cY))
                      refine bodyPost_ret (results_tmp4 rfl _ _ _) rfl ?_
                      exact ⟨congrArg Ending.returned hRn.out, (h1.trans (h2.mono h1.size)).trans (h3.mono (h1.trans (h2.mono h1.size)).size)⟩
                    · have hn : threeS p q y = some (a, b, -1) := by unfold threeS; rw [hA, hB, if_pos hy]; dsimp only; rw [if_neg (by omega)]
                      have hba' : (b < a) = False := eq_false hba
                      have hRn : Hid (ansS (some (a, b, -1)) = R) := Lib.hid (by rw [← hRs.out, hn])
                      clear hn hA hB hyn hyb hyL hy hba
                      go_wp2_with (first | (go_at_call 8; refine (cP _).mono ?_; rintro e w1 ⟨rfl, h1⟩; clear cP) | (go_at_call 8; refine (cQ _).mono ?_; rintro e w2 ⟨rfl, h2⟩; clear cQ) | (go_at_call 8; refine (cY _).mono ?_; rintro e w3 ⟨rfl, h3⟩; clear cY))
                      refine bodyPost_ret (results_tmp4 rfl _ _ _) rfl ?_
                      exact ⟨congrArg Ending.returned hRn.out, (h1.trans (h2.mono h1.size)).trans (h3.mono (h1.trans (h2.mono h1.size)).size)⟩
                  · have hye : ((strB y).toList == [42]) = false := by rw [hyL, beq_eq_false_iff_ne]; exact hy
                    cases hC : figO y with
                    | none =>
                      rw [show figN y = 0 by unfold figN; rw [hC]; rfl, show figB y = false by unfold figB; rw [hC]; rfl] at cY
                      have hn : threeS p q y = none := by unfold threeS; rw [hA, hB, if_neg hy, hC]
                      have hRn : Hid (ansS (none) = R) := Lib.hid (by rw [← hRs.out, hn])
                      clear hn hA hB hC hyL hy
                      go_wp2_with (first | (go_at_call 8; refine (cP _).mono ?_; rintro e w1 ⟨rfl, h1⟩; clear cP) | (go_at_call 8; refine (cQ _).mono ?_; rintro e w2 ⟨rfl, h2⟩; clear cQ) | (go_at_call 8; refine (cY _).mono ?_; rintro e w3 ⟨rfl, h3⟩; clear cY))
                      refine bodyPost_ret (results_tmp4 rfl _ _ _) rfl ?_
                      exact ⟨congrArg Ending.returned hRn.out, (h1.trans (h2.mono h1.size)).trans (h3.mono (h1.trans (h2.mono h1.size)).size)⟩
                    | some c =>
                      have hc0 : ((0 : Int) ≤ c) = True := eq_true (figO_ge hC)
                      rw [show figN y = c by unfold figN; rw [hC]; rfl, show figB y = true by unfold figB; rw [hC]; rfl] at cY
                      by_cases hba : b < a
                      · have hn : threeS p q y = none := by unfold threeS; rw [hA, hB, if_neg hy, hC]; dsimp only; rw [if_pos (.inl hba)]
                        have hba' : (b < a) = True := eq_true hba
                        have hRn : Hid (ansS (none) = R) := Lib.hid (by rw [← hRs.out, hn])
                        clear hn hA hB hC hyL hy hba
                        go_wp2_with (first | (go_at_call 8; refine (cP _).mono ?_; rintro e w1 ⟨rfl, h1⟩; clear cP) | (go_at_call 8; refine (cQ _).mono ?_; rintro e w2 ⟨rfl, h2⟩; clear cQ) | (go_at_call 8; refine (cY _).mono ?_; rintro e w3 ⟨rfl, h3⟩; clear cY))
                        refine bodyPost_ret (results_tmp4 rfl _ _ _) rfl ?_
                        exact ⟨congrArg Ending.returned hRn.out, (h1.trans (h2.mono h1.size)).trans (h3.mono (h1.trans (h2.mono h1.size)).size)⟩
                      · have hba' : (b < a) = False := eq_false hba
                        by_cases hcb : c ≤ b
                        · have hn : threeS p q y = none := by unfold threeS; rw [hA, hB, if_neg hy, hC]; dsimp only; rw [if_pos (.inr ⟨figO_ge hC, hcb⟩)]
                          have hcb' : (c ≤ b) = True := eq_true hcb
                          have hRn : Hid (ansS (none) = R) := Lib.hid (by rw [← hRs.out, hn])
                          clear hn hA hB hC hyL hy hba hcb
                          go_wp2_with (first | (go_at_call 8; refine (cP _).mono ?_; rintro e w1 ⟨rfl, h1⟩; clear cP) | (go_at_call 8; refine (cQ _).mono ?_; rintro e w2 ⟨rfl, h2⟩; clear cQ) | (go_at_call 8; refine (cY _).mono ?_; rintro e w3 ⟨rfl, h3⟩; clear cY))
                          refine bodyPost_ret (results_tmp4 rfl _ _ _) rfl ?_
                          exact ⟨congrArg Ending.returned hRn.out, (h1.trans (h2.mono h1.size)).trans (h3.mono (h1.trans (h2.mono h1.size)).size)⟩
                        · have hn : threeS p q y = some (a, b, c) := by unfold threeS; rw [hA, hB, if_neg hy, hC]; dsimp only; rw [if_neg (by omega)]
                          have hcb' : (c ≤ b) = False := eq_false hcb
                          have hRn : Hid (ansS (some (a, b, c)) = R) := Lib.hid (by rw [← hRs.out, hn])
                          clear hn hA hB hC hyL hy hba hcb
                          go_wp2_with (first | (go_at_call 8; refine (cP _).mono ?_; rintro e w1 ⟨rfl, h1⟩; clear cP) | (go_at_call 8; refine (cQ _).mono ?_; rintro e w2 ⟨rfl, h2⟩; clear cQ) | (go_at_call 8; refine (cY _).mono ?_; rintro e w3 ⟨rfl, h3⟩; clear cY))
                          refine bodyPost_ret (results_tmp4 rfl _ _ _) rfl ?_
                          exact ⟨congrArg Ending.returned hRn.out, (h1.trans (h2.mono h1.size)).trans (h3.mono (h1.trans (h2.mono h1.size)).size)⟩
    · have hn : spR (tl s) = none := by unfold spR; rw [if_neg hu]
      have hne : ((s.extract 0 6).toList == [98, 121, 116, 101, 115, 32]) = false := by rw [hex, hel, beq_eq_false_iff_ne]; exact hu
      rw [hn]
      clear hn hu hel hex
      go_enter Tryd.func6, Tryd.ntmps6
      go_wp2
      refine bodyPost_ret (results_tmp4 rfl _ _ _) rfl ?_
      exact ⟨rfl, Below.refl _ _⟩
end Go.Proofs.YtkdmdoflfaldiaaDoor.Given
