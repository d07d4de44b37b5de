/- rest.ParseContentRange: what it answers. -/
import Derived.Test.YtkdmdoflfaldiaaDoorCp
import Derived.Test.YtkdmdoflfaldiaaDoorPCx2
namespace Go.Proofs.YtkdmdoflfaldiaaDoor.Given
open Go.RowKit Go.Proofs.YtkdmdoflfaldiaaDoorW.PrintWords Go.Proofs.YtkdmdoflfaldiaaDoorW.PrintLast Go.Proofs.YtkdmdoflfaldiaaDoorW.PrintMore Go.Proofs.YtkdmdoflfaldiaaDoor.PC
open Go.Proofs.YtkdmdoflfaldiaaDoor.Zp
set_option linter.unusedVariables false
set_option linter.unusedSimpArgs false

def unit6 : List UInt8 := [98, 121, 116, 101, 115, 32]
/-- The three numbers of a text. -/
def three (p q y : List UInt8) : Option (Int × Int × Int) := match pI p with
  | none => none
  | some a => if a < 0 then none else match pI q with
    | none => none
    | some b => if b < a then none else if y = [42] then some (a, b, -1) else match pI y with
      | none => none
      | some c => if c < 0 ∨ b ≥ c then none else some (a, b, c)
def rdI (l : List UInt8) : Option (Int × Int × Int) :=
  if l.take 6 = unit6 then match pieces 47 [] (l.drop 6) with
    | [x, y] => match pieces 45 [] x with
      | [p, q] => three p q y
      | _ => none
    | _ => none
  else none
theorem below_drewN' {B : Nat} {a w : World} (h : Below B a w) : ∀ n, Below B a (w.drewN n)
  | 0 => h
  | n + 1 => (below_drewN' h n).drew
/-- The three numbers' cells. -/
def Z3 (W : World) (g : Nat) : Prop := W.cell? ⟨g, 0, none⟩ = some (.int .i64 0) ∧ W.cell? ⟨g, 1, none⟩ = some (.int .i64 0) ∧ W.cell? ⟨g, 2, none⟩ = some (.int .i64 0) ∧ W.frozen? ⟨g, 0, none⟩ = false ∧ W.frozen? ⟨g, 1, none⟩ = false ∧ W.frozen? ⟨g, 2, none⟩ = false
theorem z3_new (w : World) {W : World} (h : Below (w.heap.size + 1) (w.alloc (.cells #[.int .i64 0, .int .i64 0, .int .i64 0] 27)) W) : Z3 W w.heap.size := by
  have hh := (h.block w.heap.size (Nat.lt_succ_self _)).trans (heap_alloc_new w _)
  refine ⟨?_, ?_, ?_, ?_, ?_, ?_⟩
  · rw [Lib.cell_of_heap hh]; rfl
  · rw [Lib.cell_of_heap hh]; rfl
  · rw [Lib.cell_of_heap hh]; rfl
  all_goals simp [World.frozen?, hh]
/-- The three are written. -/
def put3 (W : World) (g : Nat) (x y z : Value) : World := ((W.setCell ⟨g, 0, none⟩ x).setCell ⟨g, 1, none⟩ y).setCell ⟨g, 2, none⟩ z
theorem res3 {W : World} {g : Nat} (h : Z3 W g) (x y z v : Value) {tmps : Array Value} (h2 : tmps.getD 2 undef = .pointer (some ⟨g, 0, none⟩)) (h3 : tmps.getD 3 undef = v) :
    (results Tryd.f7 tmps).run Tryd.prog (((W.setCell ⟨g, 0, none⟩ x).setCell ⟨g, 1, none⟩ y).setCell ⟨g, 2, none⟩ z) = .ok (.tuple #[.agg #[x, y, z], v]) (put3 W g x y z) := by
  obtain ⟨z0, z1, z2, f0, f1, f2⟩ := h
  have h2' : tmps[2]?.getD undef = .pointer (some ⟨g, 0, none⟩) := by simpa using h2
  have h3' : tmps[3]?.getD undef = v := by simpa using h3
  clear h2 h3
  unfold put3
  simp [results, Tryd.results7, go_sem, h2', h3', z0, z1, z2]
theorem below3 {W w : World} {g : Nat} (hB : Below w.heap.size w W) (hg : w.heap.size ≤ g) (x y z : Value) : Below w.heap.size w (put3 W g x y z) := ((hB.setCell hg _).setCell hg _).setCell hg _
theorem has9 (s : ByteArray) (w : World) : Calls Tryd.prog 9 #[.string s, .string ⟨#[98, 121, 116, 101, 115, 32]⟩] w fun e w' => e = .returned (.bool ((tl s).take 6 == unit6)) ∧ Below w.heap.size w w' := by
  refine (strings_HasPrefix.calls s ⟨#[98, 121, 116, 101, 115, 32]⟩ ((tl s).take 6 == unit6) w ?_).mono ?_
  · unfold strings_HasPrefix.f stringslite_HasPrefix.f
    have h6 : (⟨#[98, 121, 116, 101, 115, 32]⟩ : ByteArray).size = 6 := rfl
    have hu : (⟨#[98, 121, 116, 101, 115, 32]⟩ : ByteArray).toList = unit6 := by rw [tl_eq]; rfl
    rw [h6, hu]
    by_cases h : (6 : Nat) ≤ s.size
    · rw [if_pos (by omega), if_pos (by decide), if_pos (by omega)]
      have : (s.extract 0 ((6 : Nat) : Int).toNat).toList = (tl s).take 6 := by
        rw [tl_eq, extract_take, tl_strB]; rfl
      rw [this]
      rfl
    · rw [if_neg (by omega)]
      have : ((tl s).take 6 == unit6) = false := by
        rw [beq_eq_false_iff_ne]
        intro e
        have := congrArg List.length e
        rw [List.length_take, tl_size] at this
        have h7 : unit6.length = 6 := rfl
        omega
      rw [this]
      rfl
  · rintro e w' ⟨rfl, n, rfl⟩
    exact ⟨rfl, below_drewN' (Below.refl _ _) n⟩
theorem int_some {p : List UInt8} {a : Int} (h : pI p = some a) (hs : p.length ≤ 1000000000) (W : World) (hE : Ev W) : Calls Tryd.prog 12 #[.string (strB p), .int .i64 10, .int .i64 64] W fun e w' => e = .returned (.tuple #[.int .i64 a, .nilIface]) ∧ Below W.heap.size W w' := by
  refine (int12 (strB p) W (by rw [size_strB]; exact hs) hE).mono ?_
  rintro e w' ⟨v, ev, rfl, hm, hb⟩
  rw [tl_strB, h] at hm
  obtain ⟨rfl, rfl⟩ := hm
  exact ⟨rfl, hb⟩
theorem int_none {p : List UInt8} (h : pI p = none) (hs : p.length ≤ 1000000000) (W : World) (hE : Ev W) : Calls Tryd.prog 12 #[.string (strB p), .int .i64 10, .int .i64 64] W fun e w' => ∃ v q, e = .returned (.tuple #[.int .i64 v, .iface 50 q]) ∧ Below W.heap.size W w' := by
  refine (int12 (strB p) W (by rw [size_strB]; exact hs) hE).mono ?_
  rintro e w' ⟨v, ev, rfl, hm, hb⟩
  rw [tl_strB, h] at hm
  obtain ⟨q, rfl⟩ := hm
  exact ⟨v, q, rfl, hb⟩
/-- A row of pieces: its first cells, in whatever world behind. -/
theorem row_cell {w : World} {base g n cap : Nat} {L : List (List UInt8)} (h : w.ownsRow base 9 1 (.slice (some ⟨g, 0, none⟩) n cap) n (encs encP L)) {i : Nat} {x : List UInt8} (hi : L[i]? = some x) {W : World} (hb : Below w.heap.size w W) : W.cell? ⟨g, i, none⟩ = some (.string (strB x)) := by
  have hl : L.length = n := by have := h.1; simp [encs] at this; exact this
  have hil : i < L.length := (List.getElem?_eq_some_iff.1 hi).1
  have h1 := (own_at_of (d := []) h (i : Int) (by omega) (by omega)).1
  rw [Int.toNat_natCast] at h1
  have h2 : rdOf [] L (i : Int) = x := by
    show L.getD i [] = x
    simp [List.getD, hi]
  rw [h2] at h1
  exact (hb.cell (World.block_lt_of_cell? w _ h1)).trans h1
theorem pair_or (L : List (List UInt8)) : (∃ x y, L = [x, y]) ∨ L.length ≠ 2 := by
  match L with
  | [] => exact .inr (by simp)
  | [x] => exact .inr (by simp)
  | [x, y] => exact .inl ⟨x, y, rfl⟩
  | x :: y :: z :: t => exact .inr (by simp)
/-- The answer. -/
def ans7 (r : Option (Int × Int × Int)) (v : Value) : Prop := match r with
  | some (a, b, c) => v = .tuple #[.agg #[.int .i64 a, .int .i64 b, .int .i64 c], .nilIface]
  | none => ∃ a b c t p, v = .tuple #[.agg #[.int .i64 a, .int .i64 b, .int .i64 c], .iface t p]
set_option maxHeartbeats 4000000 in
set_option maxRecDepth 100000 in
theorem parse7 (s : ByteArray) (w : World) (hs : s.size ≤ 1000000) (hE : Ev w) :
    Calls Tryd.prog 7 #[.string s] w fun e w' => ∃ v, e = .returned v ∧ ans7 (rdI (tl s)) v ∧ Below w.heap.size w w' := by
  have c9 := fun W => has9 s W
  obtain ⟨W0, hW0⟩ : ∃ W0, w.alloc (.cells #[.int .i64 0, .int .i64 0, .int .i64 0] 27) = W0 := ⟨_, rfl⟩
  have hW0' : Hid (w.alloc (.cells #[.int .i64 0, .int .i64 0, .int .i64 0] 27) = W0) := hW0
  have hz : ∀ {W : World}, Below W0.heap.size W0 W → Z3 W w.heap.size := fun {W} h => z3_new w (by rw [hW0'.out]; refine h.mono ?_; rw [← hW0'.out, World.size_alloc]; exact Nat.le_refl _)
  have hfin : ∀ {W : World}, Below W0.heap.size W0 W → Below w.heap.size w W := fun {W} h => ((Below.refl _ w).alloc (Nat.le_refl _) _).trans (by rw [hW0'.out]; refine h.mono ?_; rw [← hW0'.out, World.size_alloc]; exact Nat.le_succ _)
  have hlt : Hid (w.heap.size < W0.heap.size) := Lib.hid (by rw [← hW0, World.size_alloc]; exact Nat.lt_succ_self _)
  have c10 := fun s W => new10 s W
  obtain ⟨b, hb⟩ : ∃ b, ((tl s).take 6 == unit6) = b := ⟨_, rfl⟩
  simp only [hb] at c9
  cases b with
  | false =>
    have hn : rdI (tl s) = none := by unfold rdI; rw [if_neg (by simpa using hb)]
    rw [hn]
    clear hb hn
    go_enter Tryd.func7, Tryd.ntmps7
    go_wp2_with (first | (go_at_call 9; refine (c9 _).mono ?_; rintro e w1 ⟨rfl, h1⟩) | (go_at_call 10; refine (c10 _ _).mono ?_; rintro e w2 ⟨rfl, h2⟩; have B2 := h1.trans (h2.mono h1.size); obtain ⟨z0, z1, z2, f0, f1, f2⟩ := hz B2))
    refine bodyPost_ret (res3 (hz B2) _ _ _ _ rfl rfl) rfl ?_
    exact ⟨_, rfl, ⟨_, _, _, _, _, rfl⟩, below3 (hfin B2) (Nat.le_refl _) _ _ _⟩
  | true =>
    have hu : (tl s).take 6 = unit6 := by simpa using hb
    have h6 : 6 ≤ s.size := by
      have := congrArg List.length hu
      rw [List.length_take, tl_size] at this
      have h7 : unit6.length = 6 := rfl
      omega
    have k6 : (6 : Int) ≤ (s.size : Int) := by omega
    have hrd : rdI (tl s) = match pieces 47 [] ((tl s).drop 6) with
        | [x, y] => match pieces 45 [] x with
          | [p, q] => three p q y
          | _ => none
        | _ => none := by unfold rdI; rw [if_pos hu]
    have hex := extract_drop s 6
    have hE0 : ∀ {W : World}, Below W0.heap.size W0 W → Ev W := fun {W} h => hE.below (hfin h)
    have hDl : ((tl s).drop 6).length ≤ 1000000 := by rw [List.length_drop, tl_size]; omega
    obtain ⟨D, hD⟩ : ∃ D, (tl s).drop 6 = D := ⟨_, rfl⟩
    rw [hD] at hrd hex hDl
    have hDs : (strB D).size ≤ 1000000 := by rw [size_strB]; exact hDl
    have c47 := fun W => split47 (strB D) W (by omega)
    rw [tl_strB] at c47
    have hple := pieces_le 47 D []
    have hpne := pieces_ne 47 D []
    rw [hrd]
    clear hb hu hrd hD
    obtain ⟨P, hP⟩ : ∃ P, pieces 47 [] D = P := ⟨_, rfl⟩
    rw [hP] at c47 hple hpne ⊢
    clear hP
    rcases pair_or P with ⟨x, y, rfl⟩ | hP2
    · have hxl : x.length ≤ 1000000 := by have := hple x (by simp); simp at this; omega
      have hyl : y.length ≤ 1000000 := by have := hple y (by simp); simp at this; omega
      have c45 := fun W => split45 (strB x) W (by rw [size_strB]; omega)
      rw [tl_strB] at c45
      have hqle := pieces_le 45 x []
      have hqne := pieces_ne 45 x []
      show Calls _ _ _ _ fun e w' => ∃ v, _ ∧ ans7 (match pieces 45 [] x with
          | [p, q] => three p q y
          | _ => none) v ∧ _
      obtain ⟨Q, hQ⟩ : ∃ Q, pieces 45 [] x = Q := ⟨_, rfl⟩
      rw [hQ] at c45 hqle hqne ⊢
      clear hQ hple hpne
      rcases pair_or Q with ⟨p, q, rfl⟩ | hQ2
      · have hpl : p.length ≤ 1000000 := by have := hqle p (by simp); simp at this; omega
        have hql : q.length ≤ 1000000 := by have := hqle q (by simp); simp at this; omega
        show Calls _ _ _ _ fun e w' => ∃ v, _ ∧ ans7 (three p q y) v ∧ _
        clear hqle hqne
        have hcp := fun (a : Int) (h : pI p = some a) W hE => int_some h (by omega) W hE
        cases hp : pI p with
        | none =>
          have hn : three p q y = none := by unfold three; rw [hp]
          have cp := fun W hE => int_none hp (by omega) W hE
          rw [hn]
          clear hn hp hcp h6 hxl hyl hpl hql hDs hDl
          go_enter Tryd.func7, Tryd.ntmps7
          go_wp2_with (first | (go_at_call 9; refine (c9 _).mono ?_; rintro e w1 ⟨rfl, h1⟩; clear c9) | (go_at_call 11; refine (c47 _).mono ?_; rintro e w2 ⟨v, rfl, O2, h2⟩; clear c47; obtain ⟨gp, cap2, rfl, _, _⟩ := O2.form (Nat.succ_pos _); have B2 := h1.trans (h2.mono h1.size); have x2 := row_cell O2 (i := 0) rfl (Below.refl _ _); have hy2 : ∀ {W : World}, Below w2.heap.size w2 W → W.cell? ⟨gp, 1, none⟩ = some (.string (strB y)) := fun {W} h => row_cell O2 (i := 1) rfl h) | (go_at_call 11; refine (c45 _).mono ?_; rintro e w3 ⟨v3, rfl, O3, h3⟩; clear c45; obtain ⟨gq, cap3, rfl, _, _⟩ := O3.form (Nat.succ_pos _); have B3 := B2.trans (h3.mono B2.size); have p3 := row_cell O3 (i := 0) rfl (Below.refl _ _); have hq3 : ∀ {W : World}, Below w3.heap.size w3 W → W.cell? ⟨gq, 1, none⟩ = some (.string (strB q)) := fun {W} h => row_cell O3 (i := 1) rfl h; have E3 := hE0 B3) | (go_at_call 12; refine (cp _ E3).mono ?_; rintro e w4 ⟨v4, q4, rfl, h4⟩; clear cp; have B4 := B3.trans (h4.mono B3.size); have q4' := hq3 h4; have E4 := hE0 B4) | (go_at_call 10; refine (c10 _ _).mono ?_; rintro e w9 ⟨rfl, h9⟩; have B9 := B4.trans (h9.mono B4.size); obtain ⟨z0, z1, z2, f0, f1, f2⟩ := hz B9))
          refine bodyPost_ret (res3 (hz B9) _ _ _ _ rfl rfl) rfl ?_
          exact ⟨_, rfl, ⟨_, _, _, _, _, rfl⟩, below3 (hfin B9) (Nat.le_refl _) _ _ _⟩
        | some a =>
          have cp := fun W hE => int_some hp (by omega) W hE
          by_cases ha : a < 0
          · have hn : three p q y = none := by unfold three; rw [hp]; dsimp only; rw [if_pos ha]
            rw [hn]
            clear hn hp hcp h6 hxl hyl hpl hql hDs hDl
            go_enter Tryd.func7, Tryd.ntmps7
            go_wp2_with (first | (go_at_call 9; refine (c9 _).mono ?_; rintro e w1 ⟨rfl, h1⟩; clear c9) | (go_at_call 11; refine (c47 _).mono ?_; rintro e w2 ⟨v, rfl, O2, h2⟩; clear c47; obtain ⟨gp, cap2, rfl, _, _⟩ := O2.form (Nat.succ_pos _); have B2 := h1.trans (h2.mono h1.size); have x2 := row_cell O2 (i := 0) rfl (Below.refl _ _); have hy2 : ∀ {W : World}, Below w2.heap.size w2 W → W.cell? ⟨gp, 1, none⟩ = some (.string (strB y)) := fun {W} h => row_cell O2 (i := 1) rfl h) | (go_at_call 11; refine (c45 _).mono ?_; rintro e w3 ⟨v3, rfl, O3, h3⟩; clear c45; obtain ⟨gq, cap3, rfl, _, _⟩ := O3.form (Nat.succ_pos _); have B3 := B2.trans (h3.mono B2.size); have p3 := row_cell O3 (i := 0) rfl (Below.refl _ _); have hq3 : ∀ {W : World}, Below w3.heap.size w3 W → W.cell? ⟨gq, 1, none⟩ = some (.string (strB q)) := fun {W} h => row_cell O3 (i := 1) rfl h; have E3 := hE0 B3) | (go_at_call 12; refine (cp _ E3).mono ?_; rintro e w4 ⟨rfl, h4⟩; clear cp; have B4 := B3.trans (h4.mono B3.size); have q4' := hq3 h4; have E4 := hE0 B4) | (go_at_call 10; refine (c10 _ _).mono ?_; rintro e w9 ⟨rfl, h9⟩; have B9 := B4.trans (h9.mono B4.size); obtain ⟨z0, z1, z2, f0, f1, f2⟩ := hz B9))
            refine bodyPost_ret (res3 (hz B9) _ _ _ _ rfl rfl) rfl ?_
            exact ⟨_, rfl, ⟨_, _, _, _, _, rfl⟩, below3 (hfin B9) (Nat.le_refl _) _ _ _⟩
          · have ha' : (a < 0) = False := eq_false ha
            cases hq : pI q with
            | none =>
              have hn : three p q y = none := by unfold three; rw [hp]; dsimp only; rw [if_neg ha, hq]
              have cq' := fun W hE => int_none hq (by omega) W hE
              rw [hn]
              clear hn hp hq hcp ha h6 hxl hyl hpl hql hDs hDl
              go_enter Tryd.func7, Tryd.ntmps7
              go_wp2_with (first | (go_at_call 9; refine (c9 _).mono ?_; rintro e w1 ⟨rfl, h1⟩; clear c9) | (go_at_call 11; refine (c47 _).mono ?_; rintro e w2 ⟨v, rfl, O2, h2⟩; clear c47; obtain ⟨gp, cap2, rfl, _, _⟩ := O2.form (Nat.succ_pos _); have B2 := h1.trans (h2.mono h1.size); have x2 := row_cell O2 (i := 0) rfl (Below.refl _ _); have hy2 : ∀ {W : World}, Below w2.heap.size w2 W → W.cell? ⟨gp, 1, none⟩ = some (.string (strB y)) := fun {W} h => row_cell O2 (i := 1) rfl h) | (go_at_call 11; refine (c45 _).mono ?_; rintro e w3 ⟨v3, rfl, O3, h3⟩; clear c45; obtain ⟨gq, cap3, rfl, _, _⟩ := O3.form (Nat.succ_pos _); have B3 := B2.trans (h3.mono B2.size); have p3 := row_cell O3 (i := 0) rfl (Below.refl _ _); have hq3 : ∀ {W : World}, Below w3.heap.size w3 W → W.cell? ⟨gq, 1, none⟩ = some (.string (strB q)) := fun {W} h => row_cell O3 (i := 1) rfl h; have E3 := hE0 B3) | (go_at_call 12; refine (cp _ E3).mono ?_; rintro e w4 ⟨rfl, h4⟩; clear cp; have B4 := B3.trans (h4.mono B3.size); have q4' := hq3 h4; have E4 := hE0 B4) | (go_at_call 12; refine (cq' _ E4).mono ?_; rintro e w5 ⟨v5, q5, rfl, h5⟩; clear cq'; have B5 := B4.trans (h5.mono B4.size); have y5 := hy2 (h3.trans ((h4.trans (h5.mono h4.size)).mono h3.size)); have E5 := hE0 B5) | (go_at_call 10; refine (c10 _ _).mono ?_; rintro e w9 ⟨rfl, h9⟩; have B9 := B5.trans (h9.mono B5.size); obtain ⟨z0, z1, z2, f0, f1, f2⟩ := hz B9))
              refine bodyPost_ret (res3 (hz B9) _ _ _ _ rfl rfl) rfl ?_
              exact ⟨_, rfl, ⟨_, _, _, _, _, rfl⟩, below3 (hfin B9) (Nat.le_refl _) _ _ _⟩
            | some b =>
              have cq' := fun W hE => int_some hq (by omega) W hE
              by_cases hba : b < a
              · have hn : three p q y = none := by unfold three; rw [hp]; dsimp only; rw [if_neg ha, hq]; dsimp only; rw [if_pos hba]
                rw [hn]
                clear hn hp hq hcp ha h6 hxl hyl hpl hql hDs hDl
                go_enter Tryd.func7, Tryd.ntmps7
                go_wp2_with (first | (go_at_call 9; refine (c9 _).mono ?_; rintro e w1 ⟨rfl, h1⟩; clear c9) | (go_at_call 11; refine (c47 _).mono ?_; rintro e w2 ⟨v, rfl, O2, h2⟩; clear c47; obtain ⟨gp, cap2, rfl, _, _⟩ := O2.form (Nat.succ_pos _); have B2 := h1.trans (h2.mono h1.size); have x2 := row_cell O2 (i := 0) rfl (Below.refl _ _); have hy2 : ∀ {W : World}, Below w2.heap.size w2 W → W.cell? ⟨gp, 1, none⟩ = some (.string (strB y)) := fun {W} h => row_cell O2 (i := 1) rfl h) | (go_at_call 11; refine (c45 _).mono ?_; rintro e w3 ⟨v3, rfl, O3, h3⟩; clear c45; obtain ⟨gq, cap3, rfl, _, _⟩ := O3.form (Nat.succ_pos _); have B3 := B2.trans (h3.mono B2.size); have p3 := row_cell O3 (i := 0) rfl (Below.refl _ _); have hq3 : ∀ {W : World}, Below w3.heap.size w3 W → W.cell? ⟨gq, 1, none⟩ = some (.string (strB q)) := fun {W} h => row_cell O3 (i := 1) rfl h; have E3 := hE0 B3) | (go_at_call 12; refine (cp _ E3).mono ?_; rintro e w4 ⟨rfl, h4⟩; clear cp; have B4 := B3.trans (h4.mono B3.size); have q4' := hq3 h4; have E4 := hE0 B4) | (go_at_call 12; refine (cq' _ E4).mono ?_; rintro e w5 ⟨rfl, h5⟩; clear cq'; have B5 := B4.trans (h5.mono B4.size); have y5 := hy2 (h3.trans ((h4.trans (h5.mono h4.size)).mono h3.size)); have E5 := hE0 B5) | (go_at_call 10; refine (c10 _ _).mono ?_; rintro e w9 ⟨rfl, h9⟩; have B9 := B5.trans (h9.mono B5.size); obtain ⟨z0, z1, z2, f0, f1, f2⟩ := hz B9))
                refine bodyPost_ret (res3 (hz B9) _ _ _ _ rfl rfl) rfl ?_
                exact ⟨_, rfl, ⟨_, _, _, _, _, rfl⟩, below3 (hfin B9) (Nat.le_refl _) _ _ _⟩
              · have hba' : (b < a) = False := eq_false hba
                have hyL : (strB y).toList = y := by rw [tl_eq, tl_strB]
                by_cases hy : y = [42]
                · have hn : three p q y = some (a, b, -1) := by unfold three; rw [hp]; dsimp only; rw [if_neg ha, hq]; dsimp only; rw [if_neg hba, if_pos hy]
                  have hys : ((strB y).toList == [42]) = true := by rw [hyL, hy]; rfl
                  rw [hn]
                  clear hn hp hq hcp ha hba hyL hy h6 hxl hyl hpl hql hDs hDl
                  go_enter Tryd.func7, Tryd.ntmps7
                  go_wp2_with (first | (go_at_call 9; refine (c9 _).mono ?_; rintro e w1 ⟨rfl, h1⟩; clear c9) | (go_at_call 11; refine (c47 _).mono ?_; rintro e w2 ⟨v, rfl, O2, h2⟩; clear c47; obtain ⟨gp, cap2, rfl, _, _⟩ := O2.form (Nat.succ_pos _); have B2 := h1.trans (h2.mono h1.size); have x2 := row_cell O2 (i := 0) rfl (Below.refl _ _); have hy2 : ∀ {W : World}, Below w2.heap.size w2 W → W.cell? ⟨gp, 1, none⟩ = some (.string (strB y)) := fun {W} h => row_cell O2 (i := 1) rfl h) | (go_at_call 11; refine (c45 _).mono ?_; rintro e w3 ⟨v3, rfl, O3, h3⟩; clear c45; obtain ⟨gq, cap3, rfl, _, _⟩ := O3.form (Nat.succ_pos _); have B3 := B2.trans (h3.mono B2.size); have p3 := row_cell O3 (i := 0) rfl (Below.refl _ _); have hq3 : ∀ {W : World}, Below w3.heap.size w3 W → W.cell? ⟨gq, 1, none⟩ = some (.string (strB q)) := fun {W} h => row_cell O3 (i := 1) rfl h; have E3 := hE0 B3) | (go_at_call 12; refine (cp _ E3).mono ?_; rintro e w4 ⟨rfl, h4⟩; clear cp; have B4 := B3.trans (h4.mono B3.size); have q4' := hq3 h4; have E4 := hE0 B4) | (go_at_call 12; refine (cq' _ E4).mono ?_; rintro e w5 ⟨rfl, h5⟩; clear cq'; have B5 := B4.trans (h5.mono B4.size); have y5 := hy2 (h3.trans ((h4.trans (h5.mono h4.size)).mono h3.size)); have E5 := hE0 B5; obtain ⟨y0, y1, y2, g0, g1, g2⟩ := hz B5))
                  refine bodyPost_ret (res3 (hz B5) _ _ _ _ rfl rfl) rfl ?_
                  exact ⟨_, rfl, rfl, below3 (hfin B5) (Nat.le_refl _) _ _ _⟩
                · have hys : ((strB y).toList == [42]) = false := by rw [hyL, beq_eq_false_iff_ne]; exact hy
                  cases hc : pI y with
                  | none =>
                    have hn : three p q y = none := by unfold three; rw [hp]; dsimp only; rw [if_neg ha, hq]; dsimp only; rw [if_neg hba, if_neg hy, hc]
                    have cy := fun W hE => int_none hc (by omega) W hE
                    rw [hn]
                    clear hn hp hq hc hcp ha hba hyL hy h6 hxl hyl hpl hql hDs hDl
                    go_enter Tryd.func7, Tryd.ntmps7
                    go_wp2_with (first | (go_at_call 9; refine (c9 _).mono ?_; rintro e w1 ⟨rfl, h1⟩; clear c9) | (go_at_call 11; refine (c47 _).mono ?_; rintro e w2 ⟨v, rfl, O2, h2⟩; clear c47; obtain ⟨gp, cap2, rfl, _, _⟩ := O2.form (Nat.succ_pos _); have B2 := h1.trans (h2.mono h1.size); have x2 := row_cell O2 (i := 0) rfl (Below.refl _ _); have hy2 : ∀ {W : World}, Below w2.heap.size w2 W → W.cell? ⟨gp, 1, none⟩ = some (.string (strB y)) := fun {W} h => row_cell O2 (i := 1) rfl h) | (go_at_call 11; refine (c45 _).mono ?_; rintro e w3 ⟨v3, rfl, O3, h3⟩; clear c45; obtain ⟨gq, cap3, rfl, _, _⟩ := O3.form (Nat.succ_pos _); have B3 := B2.trans (h3.mono B2.size); have p3 := row_cell O3 (i := 0) rfl (Below.refl _ _); have hq3 : ∀ {W : World}, Below w3.heap.size w3 W → W.cell? ⟨gq, 1, none⟩ = some (.string (strB q)) := fun {W} h => row_cell O3 (i := 1) rfl h; have E3 := hE0 B3) | (go_at_call 12; refine (cp _ E3).mono ?_; rintro e w4 ⟨rfl, h4⟩; clear cp; have B4 := B3.trans (h4.mono B3.size); have q4' := hq3 h4; have E4 := hE0 B4) | (go_at_call 12; refine (cq' _ E4).mono ?_; rintro e w5 ⟨rfl, h5⟩; clear cq'; have B5 := B4.trans (h5.mono B4.size); have y5 := hy2 (h3.trans ((h4.trans (h5.mono h4.size)).mono h3.size)); have E5 := hE0 B5) | (go_at_call 12; refine (cy _ E5).mono ?_; rintro e w6 ⟨v6, q6, rfl, h6'⟩; clear cy; have B6 := B5.trans (h6'.mono B5.size)) | (go_at_call 10; refine (c10 _ _).mono ?_; rintro e w9 ⟨rfl, h9⟩; have B9 := B6.trans (h9.mono B6.size); obtain ⟨z0, z1, z2, f0, f1, f2⟩ := hz B9))
                    refine bodyPost_ret (res3 (hz B9) _ _ _ _ rfl rfl) rfl ?_
                    exact ⟨_, rfl, ⟨_, _, _, _, _, rfl⟩, below3 (hfin B9) (Nat.le_refl _) _ _ _⟩
                  | some c =>
                    have cy := fun W hE => int_some hc (by omega) W hE
                    by_cases hcc : c < 0 ∨ b ≥ c
                    · have hn : three p q y = none := by unfold three; rw [hp]; dsimp only; rw [if_neg ha, hq]; dsimp only; rw [if_neg hba, if_neg hy, hc]; dsimp only; rw [if_pos hcc]
                      rw [hn]
                      by_cases hc0 : c < 0
                      · have hc0' : (c < 0) = True := eq_true hc0
                        clear hn hp hq hc hcp ha hba hyL hy hcc hc0 h6 hxl hyl hpl hql hDs hDl
                        go_enter Tryd.func7, Tryd.ntmps7
                        go_wp2_with (first | (go_at_call 9; refine (c9 _).mono ?_; rintro e w1 ⟨rfl, h1⟩; clear c9) | (go_at_call 11; refine (c47 _).mono ?_; rintro e w2 ⟨v, rfl, O2, h2⟩; clear c47; obtain ⟨gp, cap2, rfl, _, _⟩ := O2.form (Nat.succ_pos _); have B2 := h1.trans (h2.mono h1.size); have x2 := row_cell O2 (i := 0) rfl (Below.refl _ _); have hy2 : ∀ {W : World}, Below w2.heap.size w2 W → W.cell? ⟨gp, 1, none⟩ = some (.string (strB y)) := fun {W} h => row_cell O2 (i := 1) rfl h) | (go_at_call 11; refine (c45 _).mono ?_; rintro e w3 ⟨v3, rfl, O3, h3⟩; clear c45; obtain ⟨gq, cap3, rfl, _, _⟩ := O3.form (Nat.succ_pos _); have B3 := B2.trans (h3.mono B2.size); have p3 := row_cell O3 (i := 0) rfl (Below.refl _ _); have hq3 : ∀ {W : World}, Below w3.heap.size w3 W → W.cell? ⟨gq, 1, none⟩ = some (.string (strB q)) := fun {W} h => row_cell O3 (i := 1) rfl h; have E3 := hE0 B3) | (go_at_call 12; refine (cp _ E3).mono ?_; rintro e w4 ⟨rfl, h4⟩; clear cp; have B4 := B3.trans (h4.mono B3.size); have q4' := hq3 h4; have E4 := hE0 B4) | (go_at_call 12; refine (cq' _ E4).mono ?_; rintro e w5 ⟨rfl, h5⟩; clear cq'; have B5 := B4.trans (h5.mono B4.size); have y5 := hy2 (h3.trans ((h4.trans (h5.mono h4.size)).mono h3.size)); have E5 := hE0 B5) | (go_at_call 12; refine (cy _ E5).mono ?_; rintro e w6 ⟨rfl, h6'⟩; clear cy; have B6 := B5.trans (h6'.mono B5.size); obtain ⟨y0, y1, y2, g0, g1, g2⟩ := hz B6) | (go_at_call 10; refine (c10 _ _).mono ?_; rintro e w9 ⟨rfl, h9⟩; have B9 := B6.trans (h9.mono B6.size); obtain ⟨z0, z1, z2, f0, f1, f2⟩ := hz B9))
                        refine bodyPost_ret (res3 (hz B9) _ _ _ _ rfl rfl) rfl ?_
                        exact ⟨_, rfl, ⟨_, _, _, _, _, rfl⟩, below3 (hfin B9) (Nat.le_refl _) _ _ _⟩
                      · have hc0' : (c < 0) = False := eq_false hc0
                        have hbc : c ≤ b := by rcases hcc with h | h; exact absurd h hc0; exact h
                        clear hn hp hq hc hcp ha hba hyL hy hcc hc0 h6 hxl hyl hpl hql hDs hDl
                        go_enter Tryd.func7, Tryd.ntmps7
                        go_wp2_with (first | (go_at_call 9; refine (c9 _).mono ?_; rintro e w1 ⟨rfl, h1⟩; clear c9) | (go_at_call 11; refine (c47 _).mono ?_; rintro e w2 ⟨v, rfl, O2, h2⟩; clear c47; obtain ⟨gp, cap2, rfl, _, _⟩ := O2.form (Nat.succ_pos _); have B2 := h1.trans (h2.mono h1.size); have x2 := row_cell O2 (i := 0) rfl (Below.refl _ _); have hy2 : ∀ {W : World}, Below w2.heap.size w2 W → W.cell? ⟨gp, 1, none⟩ = some (.string (strB y)) := fun {W} h => row_cell O2 (i := 1) rfl h) | (go_at_call 11; refine (c45 _).mono ?_; rintro e w3 ⟨v3, rfl, O3, h3⟩; clear c45; obtain ⟨gq, cap3, rfl, _, _⟩ := O3.form (Nat.succ_pos _); have B3 := B2.trans (h3.mono B2.size); have p3 := row_cell O3 (i := 0) rfl (Below.refl _ _); have hq3 : ∀ {W : World}, Below w3.heap.size w3 W → W.cell? ⟨gq, 1, none⟩ = some (.string (strB q)) := fun {W} h => row_cell O3 (i := 1) rfl h; have E3 := hE0 B3) | (go_at_call 12; refine (cp _ E3).mono ?_; rintro e w4 ⟨rfl, h4⟩; clear cp; have B4 := B3.trans (h4.mono B3.size); have q4' := hq3 h4; have E4 := hE0 B4) | (go_at_call 12; refine (cq' _ E4).mono ?_; rintro e w5 ⟨rfl, h5⟩; clear cq'; have B5 := B4.trans (h5.mono B4.size); have y5 := hy2 (h3.trans ((h4.trans (h5.mono h4.size)).mono h3.size)); have E5 := hE0 B5) | (go_at_call 12; refine (cy _ E5).mono ?_; rintro e w6 ⟨rfl, h6'⟩; clear cy; have B6 := B5.trans (h6'.mono B5.size); obtain ⟨y0, y1, y2, g0, g1, g2⟩ := hz B6) | (go_at_call 10; refine (c10 _ _).mono ?_; rintro e w9 ⟨rfl, h9⟩; have B9 := B6.trans (h9.mono B6.size); obtain ⟨z0, z1, z2, f0, f1, f2⟩ := hz B9))
                        refine bodyPost_ret (res3 (hz B9) _ _ _ _ rfl rfl) rfl ?_
                        exact ⟨_, rfl, ⟨_, _, _, _, _, rfl⟩, below3 (hfin B9) (Nat.le_refl _) _ _ _⟩
                    · have hn : three p q y = some (a, b, c) := by unfold three; rw [hp]; dsimp only; rw [if_neg ha, hq]; dsimp only; rw [if_neg hba, if_neg hy, hc]; dsimp only; rw [if_neg hcc]
                      have hc0' : (c < 0) = False := eq_false (fun h => hcc (.inl h))
                      have hbc : (c ≤ b) = False := eq_false (fun h => hcc (.inr h))
                      rw [hn]
                      clear hn hp hq hc hcp ha hba hyL hy hcc h6 hxl hyl hpl hql hDs hDl
                      go_enter Tryd.func7, Tryd.ntmps7
                      go_wp2_with (first | (go_at_call 9; refine (c9 _).mono ?_; rintro e w1 ⟨rfl, h1⟩; clear c9) | (go_at_call 11; refine (c47 _).mono ?_; rintro e w2 ⟨v, rfl, O2, h2⟩; clear c47; obtain ⟨gp, cap2, rfl, _, _⟩ := O2.form (Nat.succ_pos _); have B2 := h1.trans (h2.mono h1.size); have x2 := row_cell O2 (i := 0) rfl (Below.refl _ _); have hy2 : ∀ {W : World}, Below w2.heap.size w2 W → W.cell? ⟨gp, 1, none⟩ = some (.string (strB y)) := fun {W} h => row_cell O2 (i := 1) rfl h) | (go_at_call 11; refine (c45 _).mono ?_; rintro e w3 ⟨v3, rfl, O3, h3⟩; clear c45; obtain ⟨gq, cap3, rfl, _, _⟩ := O3.form (Nat.succ_pos _); have B3 := B2.trans (h3.mono B2.size); have p3 := row_cell O3 (i := 0) rfl (Below.refl _ _); have hq3 : ∀ {W : World}, Below w3.heap.size w3 W → W.cell? ⟨gq, 1, none⟩ = some (.string (strB q)) := fun {W} h => row_cell O3 (i := 1) rfl h; have E3 := hE0 B3) | (go_at_call 12; refine (cp _ E3).mono ?_; rintro e w4 ⟨rfl, h4⟩; clear cp; have B4 := B3.trans (h4.mono B3.size); have q4' := hq3 h4; have E4 := hE0 B4) | (go_at_call 12; refine (cq' _ E4).mono ?_; rintro e w5 ⟨rfl, h5⟩; clear cq'; have B5 := B4.trans (h5.mono B4.size); have y5 := hy2 (h3.trans ((h4.trans (h5.mono h4.size)).mono h3.size)); have E5 := hE0 B5) | (go_at_call 12; refine (cy _ E5).mono ?_; rintro e w6 ⟨rfl, h6'⟩; clear cy; have B6 := B5.trans (h6'.mono B5.size); obtain ⟨y0, y1, y2, g0, g1, g2⟩ := hz B6))
                      refine bodyPost_ret (res3 (hz B6) _ _ _ _ rfl rfl) rfl ?_
                      exact ⟨_, rfl, rfl, below3 (hfin B6) (Nat.le_refl _) _ _ _⟩
      · have hn : (match Q with
            | [p, q] => three p q y
            | _ => none) = none := by
          match Q, hQ2 with
          | [], _ => rfl
          | [a], _ => rfl
          | [a, b], h => exact absurd rfl h
          | a :: b :: c :: t, _ => rfl
        rw [hn]
        have hQ0 : Hid (0 < Q.length) := Lib.hid (List.length_pos_iff.2 hqne)
        obtain ⟨n, hnl⟩ : ∃ n, Q.length = n := ⟨_, rfl⟩
        rw [hnl] at c45 hQ0 hQ2
        have k2 : ((n : Int) != 2) = true := by rw [bne_iff_ne]; omega
        clear hn hqne hqle hnl hQ2 h6 hxl hyl hDs hDl hE0
        go_enter Tryd.func7, Tryd.ntmps7
        go_wp2_with (first | (go_at_call 9; refine (c9 _).mono ?_; rintro e w1 ⟨rfl, h1⟩; clear c9) | (go_at_call 11; refine (c47 _).mono ?_; rintro e w2 ⟨v, rfl, O2, h2⟩; clear c47; obtain ⟨gp, cap2, rfl, _, _⟩ := O2.form (Nat.succ_pos _); have B2 := h1.trans (h2.mono h1.size); have x2 := row_cell O2 (i := 0) rfl (Below.refl _ _)) | (go_at_call 11; refine (c45 _).mono ?_; rintro e w3 ⟨v3, rfl, O3, h3⟩; clear c45; obtain ⟨gq, cap3, rfl, _, _⟩ := O3.form hQ0.out; have B3 := B2.trans (h3.mono B2.size)) | (go_at_call 10; refine (c10 _ _).mono ?_; rintro e w9 ⟨rfl, h9⟩; have B9 := B3.trans (h9.mono B3.size); obtain ⟨z0, z1, z2, f0, f1, f2⟩ := hz B9))
        refine bodyPost_ret (res3 (hz B9) _ _ _ _ rfl rfl) rfl ?_
        exact ⟨_, rfl, ⟨_, _, _, _, _, rfl⟩, below3 (hfin B9) (Nat.le_refl _) _ _ _⟩
    · have hn : (match P with
          | [x, y] => match pieces 45 [] x with
            | [p, q] => three p q y
            | _ => none
          | _ => none) = none := by
        match P, hP2 with
        | [], _ => rfl
        | [a], _ => rfl
        | [a, b], h => exact absurd rfl h
        | a :: b :: c :: t, _ => rfl
      rw [hn]
      have hP0 : Hid (0 < P.length) := Lib.hid (List.length_pos_iff.2 hpne)
      obtain ⟨n, hnl⟩ : ∃ n, P.length = n := ⟨_, rfl⟩
      rw [hnl] at c47 hP0 hP2
      have k2 : ((n : Int) != 2) = true := by rw [bne_iff_ne]; omega
      clear hn hpne hple hnl hP2 h6 hDs hDl hE0
      go_enter Tryd.func7, Tryd.ntmps7
      go_wp2_with (first | (go_at_call 9; refine (c9 _).mono ?_; rintro e w1 ⟨rfl, h1⟩; clear c9) | (go_at_call 11; refine (c47 _).mono ?_; rintro e w2 ⟨v, rfl, O2, h2⟩; clear c47; obtain ⟨gp, cap2, rfl, _, _⟩ := O2.form hP0.out; have B2 := h1.trans (h2.mono h1.size)) | (go_at_call 10; refine (c10 _ _).mono ?_; rintro e w9 ⟨rfl, h9⟩; have B9 := B2.trans (h9.mono B2.size); obtain ⟨z0, z1, z2, f0, f1, f2⟩ := hz B9))
      refine bodyPost_ret (res3 (hz B9) _ _ _ _ rfl rfl) rfl ?_
      exact ⟨_, rfl, ⟨_, _, _, _, _, rfl⟩, below3 (hfin B9) (Nat.le_refl _) _ _ _⟩
end Go.Proofs.YtkdmdoflfaldiaaDoor.Given
