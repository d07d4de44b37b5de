/- 4 texts of this claim, one behind the other. -/
import Derived.Test.YtonmnpmklkbioaaDoorGc
import Derived.Test.YtonmnpmklkbioaaDoorGb
/- The alphabet of Decode's statements ahead of its buffer (names), and that its rules are sound. -/
namespace Go.Proofs.YtonmnpmklkbioaaDoor.Sy
open Go.RowKit Go.Proofs.YtonmnpmklkbioaaDoorW.PrintWords
set_option linter.unusedVariables false
set_option linter.unusedSimpArgs false
inductive Ad where
  | mptr | mask
  | meq (c : Int)
  | has (b : Int)
  | s0 | s1 | s2
  | dt0 | dr0 | dw0
  | dt1 | dr1 | dw1
  | len0 | len1 | lw0 | lw1 | dsum
  | r0c (c : Int)
  | r1c (c : Int)
  | rsub | sstr | rstr0 | rstr1
  | pre
  | seq (l : List UInt8)
  deriving DecidableEq
structure Cd where
  mp : Addr
  m : Int
  S : ByteArray
  left : Bool
  P0 : ByteArray
/-- The end's character: its rune, how many bytes. -/
def endD (left : Bool) (S : ByteArray) : Nat × Nat := if left then Lib.decodeGo S else Lib.decodeLastL S.data.toList
def cutD (left : Bool) (S : ByteArray) : ByteArray := if left then S.extract (endD left S).2 S.size else S.extract 0 (S.size - (endD left S).2)
def Cd.S1 (x : Cd) : ByteArray := cutD x.left x.S
def Cd.S2 (x : Cd) : ByteArray := cutD x.left x.S1
def Cd.d0 (x : Cd) : Nat × Nat := endD x.left x.S
def Cd.d1 (x : Cd) : Nat × Nat := endD x.left x.S1
def Cd.B (x : Cd) : Ad → Bool
  | .has b => hasB x.m b
  | .meq c => x.m == c
  | .r0c c => (x.d0.1 : Int) == c
  | .r1c c => (x.d1.1 : Int) == c
  | .seq l => x.S.toList == l
  | _ => false
def Cd.V (x : Cd) : Ad → Value
  | .mptr => .pointer (some x.mp)
  | .mask => .int .u64 x.m
  | .meq c => .bool (x.m == c)
  | .has b => .bool (hasB x.m b)
  | .s0 => .string x.S
  | .s1 => .string x.S1
  | .s2 => .string x.S2
  | .dt0 => .tuple #[.int .i32 (x.d0.1 : Int), .int .i64 (x.d0.2 : Int)]
  | .dr0 => .int .i32 (x.d0.1 : Int)
  | .dw0 => .int .i64 (x.d0.2 : Int)
  | .dt1 => .tuple #[.int .i32 (x.d1.1 : Int), .int .i64 (x.d1.2 : Int)]
  | .dr1 => .int .i32 (x.d1.1 : Int)
  | .dw1 => .int .i64 (x.d1.2 : Int)
  | .len0 => .int .i64 (x.S.size : Int)
  | .len1 => .int .i64 (x.S1.size : Int)
  | .lw0 => .int .i64 ((x.S.size - x.d0.2 : Nat) : Int)
  | .lw1 => .int .i64 ((x.S1.size - x.d1.2 : Nat) : Int)
  | .dsum => .int .i64 ((x.d0.2 + x.d1.2 : Nat) : Int)
  | .r0c c => .bool ((x.d0.1 : Int) == c)
  | .r1c c => .bool ((x.d1.1 : Int) == c)
  | .rsub => .int .i32 (IntKind.i32.wrap ((x.d0.1 : Int) - 9216))
  | .sstr => .string (strB (Lib.encodeRune (IntKind.i32.wrap ((x.d0.1 : Int) - 9216))))
  | .rstr0 => .string (strB (Lib.encodeRune (x.d0.1 : Int)))
  | .rstr1 => .string (strB (Lib.encodeRune (x.d1.1 : Int)))
  | .pre => .string x.P0
  | .seq l => .bool (x.S.toList == l)
def isBd : Ad → Bool
  | .has _ => true
  | .meq _ => true
  | .r0c _ => true
  | .r1c _ => true
  | .seq _ => true
  | _ => false
abbrev T3 := Option (E Ad)
def dSlice (left : Bool) (lo hi mx : Option Operand) (es : List (E Ad)) : T3 :=
  match lo, hi, mx with
  | some _, none, none => (match es with
    | [.atom .s0, .atom .dw0] => bif left then some (.atom .s1) else none
    | [.atom .s0, .atom .dsum] => bif left then some (.atom .s2) else none
    | _ => none)
  | none, some _, none => (match es with
    | [.atom .s0, .atom .lw0] => bif left then none else some (.atom .s1)
    | [.atom .s1, .atom .lw1] => bif left then none else some (.atom .s2)
    | _ => none)
  | _, _, _ => none
def dBin (op : BinOp) (t t2 : Nat) (es : List (E Ad)) : T3 :=
  bif Nat.beq t t2 then (match op with
  | .eql => bif Nat.beq t 9 then (match es with
      | [.atom .s0, .lit (.string t)] => some (.atom (.seq t.data.toList))
      | _ => none) else bif Nat.beq t 21 then (match es with
      | [.atom .dr0, .lit (.int .i32 c)] => some (.atom (.r0c c))
      | [.atom .dr1, .lit (.int .i32 c)] => some (.atom (.r1c c))
      | _ => none) else bif Nat.beq t 43 then (match es with
      | [.atom .mask, .lit (.int .u64 c)] => some (.atom (.meq c))
      | _ => none) else none
  | .sub => bif Nat.beq t 3 then (match es with
      | [.atom .len0, .atom .dw0] => some (.atom .lw0)
      | [.atom .len1, .atom .dw1] => some (.atom .lw1)
      | _ => none) else bif Nat.beq t 21 then (match es with
      | [.atom .dr0, .lit (.int .i32 9216)] => some (.atom .rsub)
      | _ => none) else none
  | .add => bif Nat.beq t 3 then (match es with
      | [.atom .dw0, .atom .dw1] => some (.atom .dsum)
      | _ => none) else none
  | _ => none) else none
def dConv (s d : Nat) (es : List (E Ad)) : T3 :=
  bif Nat.beq s 21 && Nat.beq d 9 then (match es with
    | [.atom .rsub] => some (.atom .sstr)
    | [.atom .dr0] => some (.atom .rstr0)
    | [.atom .dr1] => some (.atom .rstr1)
    | _ => none) else none
def dExtract (i : Nat) : List (E Ad) → T3
  | [.atom .dt0] => bif Nat.beq i 0 then some (.atom .dr0) else bif Nat.beq i 1 then some (.atom .dw0) else none
  | [.atom .dt1] => bif Nat.beq i 0 then some (.atom .dr1) else bif Nat.beq i 1 then some (.atom .dw1) else none
  | _ => none
def dLen (ats : Array TypeId) (es : List (E Ad)) : T3 :=
  match ats.toList with
  | [t] => bif Nat.beq t 9 then (match es with
    | [.atom .s0] => some (.atom .len0)
    | [.atom .s1] => some (.atom .len1)
    | _ => none) else none
  | _ => none
def pureD (left : Bool) (o : Op) (es : List (E Ad)) : T3 :=
  match o with
  | .load t _ => bif Nat.beq t 43 then (match es with
    | [.atom .mptr] => some (.atom .mask)
    | _ => none) else none
  | .slice t _ lo hi mx => bif Nat.beq t 9 then dSlice left lo hi mx es else none
  | .binOp op t _ _ t2 => dBin op t t2 es
  | .convert s d _ => dConv s d es
  | .extract _ i => dExtract i es
  | .call c => match c.callee with
    | .builtin .len => dLen c.argTypes es
    | _ => none
  | _ => none
def callD (left : Bool) (o : Op) (es : List (E Ad)) : T3 :=
  match o with
  | .call c => match c.callee with
    | .value (.func f) => (match es with
      | [.atom .mask, .lit (.int .u64 b)] => bif Nat.beq f 56 then some (.atom (.has b)) else none
      | [.atom .s0] => bif Nat.beq f (bif left then 57 else 58) then some (.atom .dt0) else none
      | [.atom .s1] => bif Nat.beq f (bif left then 57 else 58) then some (.atom .dt1) else none
      | _ => none)
    | _ => none
  | _ => none
def rulesD (left : Bool) (n : Nat) : Rules Ad Unit :=
  ⟨fun o es => match pureD left o es with
    | some e => some (e, [])
    | none => match callD left o es with
      | some e => some (e, [])
      | none => none, pureD left, isBd, n, fun _ _ => true⟩
theorem endD_le (left : Bool) (S : ByteArray) : (endD left S).2 ≤ S.size := by
  unfold endD
  split
  · exact Lib.decodeGo_le_size S
  · have hl : S.data.toList.length = S.size := Array.length_toList
    unfold Lib.decodeLastL
    split
    · exact Nat.zero_le _
    · rename_i h0
      have hp : 0 < S.size := by
        rw [← hl]
        cases hc : S.data.toList with
        | nil => first | exact absurd hc (by assumption) | (rw [hc] at h0; simp at h0)
        | cons x l => simp
      split
      · exact hp
      · simp only
        split
        · rename_i h; rw [← hl]; omega
        · exact hp
theorem cutD_le (left : Bool) (S : ByteArray) : (cutD left S).size ≤ S.size := by
  unfold cutD
  split
  · rw [ByteArray.size_extract]; omega
  · rw [ByteArray.size_extract]; omega
theorem r_sub32d {a : Act} {w : World} {dst : Option Nat} {ty : TypeId} {pos : String} {af : Array Edge} {gd : Option (Nat × Bool)} {x y : Operand} {n c : Int} (h1 : a.eval x = .int .i32 n) (h2 : a.eval y = .int .i32 c) : (execOp a.eval ⟨dst, .binOp .sub 21 x y 21, ty, pos, af, gd⟩).run Tryd.prog w = .ok (.value (.int .i32 (IntKind.i32.wrap (n - c)))) w := by
  unfold execOp
  dsimp only
  rw [h1, h2]
  go_simp
theorem extract_two (S : ByteArray) (i j : Nat) (hi : i ≤ S.size) : (S.extract i S.size).extract j (S.extract i S.size).size = S.extract (i + j) S.size := by
  apply ByteArray.ext
  simp only [ByteArray.data_extract, ByteArray.size_extract, Array.extract_extract]
  congr 1
  omega
set_option maxHeartbeats 4000000 in
set_option maxRecDepth 100000 in
theorem pureD_run (x : Cd) (hmx : x.S.size ≤ 140737488351232) {w : World} (hm : w.cell? x.mp = some (.int .u64 x.m)) (o : Oper) {es : List (E Ad)} {e : E Ad} {xs : List Operand} (h : pureD x.left o.op es = some e) (hxs : opnds o.op = some xs) (a : Act) (he : xs.map a.eval = es.map (E.val x.V)) :
    (execOp a.eval o).run Tryd.prog w = .ok (.value (e.val x.V)) w := by
  have hd0 : x.d0.2 ≤ x.S.size := endD_le x.left x.S
  have hd1 : x.d1.2 ≤ x.S1.size := endD_le x.left x.S1
  have hs1 : x.S1.size ≤ x.S.size := cutD_le x.left x.S
  obtain ⟨dst, op, ty, pos, af, gd⟩ := o
  simp only at h hxs
  have lw0 : IntKind.i64.wrap ((x.S.size : Int) - (x.d0.2 : Int)) = ((x.S.size - x.d0.2 : Nat) : Int) := by rw [i64_id (by omega) (by omega)]; omega
  have lw1 : IntKind.i64.wrap ((x.S1.size : Int) - (x.d1.2 : Int)) = ((x.S1.size - x.d1.2 : Nat) : Int) := by rw [i64_id (by omega) (by omega)]; omega
  have ls : IntKind.i64.wrap ((x.d0.2 : Int) + (x.d1.2 : Int)) = ((x.d0.2 + x.d1.2 : Nat) : Int) := by rw [i64_id (by omega) (by omega)]; omega
  cases op with
  | load t y =>
    simp only [pureD] at h
    cases ht : Nat.beq t 43 with
    | false => rw [ht] at h; cases h
    | true =>
      obtain rfl := beq_t ht
      rw [ht] at h
      simp only [cond_true] at h
      split at h
      · cases h; cases hxs
        simp only [List.map_cons, List.map_nil, List.cons.injEq, and_true] at he
        exact r_load he hm
      · cases h
  | slice t y lo hi mx =>
    simp only [pureD] at h
    cases ht : Nat.beq t 9 with
    | false => rw [ht] at h; cases h
    | true =>
      obtain rfl := beq_t ht
      rw [ht] at h
      simp only [cond_true] at h
      simp only [opnds, Option.some.injEq] at hxs
      subst hxs
      unfold dSlice at h
      split at h
      · simp only [optL, List.append_nil, List.cons_append, List.nil_append] at he
        split at h
        · simp only [List.map_cons, List.map_nil, List.cons.injEq, and_true] at he
          cases hl : x.left with
          | false => rw [hl] at h; cases h
          | true =>
            rw [hl] at h; cases h
            rw [r_slice_lo (i := x.d0.2) he.1 he.2 hd0]
            simp only [E.val, Cd.V, Cd.S1, Cd.d0, cutD, hl, if_true]
        · simp only [List.map_cons, List.map_nil, List.cons.injEq, and_true] at he
          cases hl : x.left with
          | false => rw [hl] at h; cases h
          | true =>
            rw [hl] at h; cases h
            have e1 : x.S1 = x.S.extract x.d0.2 x.S.size := by simp only [Cd.S1, Cd.d0, cutD, hl, if_true]
            have e2 : x.S2 = x.S.extract (x.d0.2 + x.d1.2) x.S.size := by
              rw [← extract_two x.S x.d0.2 x.d1.2 hd0, ← e1]
              simp only [Cd.S2, Cd.d1, cutD, hl, if_true]
            have e3 : x.S1.size = x.S.size - x.d0.2 := by rw [e1, ByteArray.size_extract]; omega
            rw [r_slice_lo (i := x.d0.2 + x.d1.2) he.1 he.2 (by omega), ← e2]
            rfl
        · cases h
      · simp only [optL, List.append_nil, List.cons_append, List.nil_append] at he
        split at h
        · simp only [List.map_cons, List.map_nil, List.cons.injEq, and_true] at he
          cases hl : x.left with
          | true => rw [hl] at h; cases h
          | false =>
            rw [hl] at h; cases h
            rw [r_slice_hi (i := x.S.size - x.d0.2) he.1 he.2 (by omega)]
            simp only [E.val, Cd.V, Cd.S1, Cd.d0, cutD, hl, Bool.false_eq_true, if_false]
        · simp only [List.map_cons, List.map_nil, List.cons.injEq, and_true] at he
          cases hl : x.left with
          | true => rw [hl] at h; cases h
          | false =>
            rw [hl] at h; cases h
            rw [r_slice_hi (i := x.S1.size - x.d1.2) he.1 he.2 (by omega)]
            simp only [E.val, Cd.V, Cd.S2, Cd.d1, cutD, hl, Bool.false_eq_true, if_false]
        · cases h
      · cases h
  | convert s d y =>
    simp only [pureD, dConv] at h
    cases hxs
    cases ht2 : Nat.beq s 21 && Nat.beq d 9 with
    | false => rw [ht2] at h; cases h
    | true =>
      rw [ht2] at h
      simp only [Bool.and_eq_true] at ht2
      obtain rfl := beq_t ht2.1
      obtain rfl := beq_t ht2.2
      simp only [cond_true] at h
      split at h
      · cases h
        simp only [List.map_cons, List.map_nil, List.cons.injEq, and_true] at he
        exact r_convs he
      · cases h
        simp only [List.map_cons, List.map_nil, List.cons.injEq, and_true] at he
        exact r_convs he
      · cases h
        simp only [List.map_cons, List.map_nil, List.cons.injEq, and_true] at he
        exact r_convs he
      · cases h
  | extract y i =>
    simp only [pureD] at h
    cases hxs
    unfold dExtract at h
    split at h
    all_goals first
      | (simp only [List.map_cons, List.map_nil, List.cons.injEq, and_true] at he
         cases ht : Nat.beq i 0 with
         | true =>
           obtain rfl := beq_t ht
           rw [ht] at h; cases h
           exact r_extract he rfl
         | false =>
           rw [ht] at h
           simp only [cond_false] at h
           cases ht2 : Nat.beq i 1 with
           | true =>
             obtain rfl := beq_t ht2
             rw [ht2] at h; cases h
             exact r_extract he rfl
           | false => rw [ht2] at h; cases h)
      | cases h
  | binOp op t y z t2 =>
    simp only [pureD, dBin] at h
    cases hxs
    cases htt : Nat.beq t t2 with
    | false => rw [htt] at h; cases h
    | true =>
      obtain rfl := beq_t htt
      rw [htt] at h
      simp only [cond_true] at h
      split at h
      · cases h9 : Nat.beq t 9 with
        | true =>
          obtain rfl := beq_t h9
          rw [h9] at h
          simp only [cond_true] at h
          split at h
          · cases h
            simp only [List.map_cons, List.map_nil, List.cons.injEq, and_true] at he
            rw [r_eqls he.1 he.2]
            simp only [E.val, Cd.V]
            rw [tl_eq, tl_eq]
          · cases h
        | false =>
          rw [h9] at h
          simp only [cond_false] at h
          cases h21 : Nat.beq t 21 with
          | true =>
            obtain rfl := beq_t h21
            rw [h21] at h
            simp only [cond_true] at h
            split at h
            · cases h
              simp only [List.map_cons, List.map_nil, List.cons.injEq, and_true] at he
              exact r_eql32 he.1 he.2
            · cases h
              simp only [List.map_cons, List.map_nil, List.cons.injEq, and_true] at he
              exact r_eql32 he.1 he.2
            · cases h
          | false =>
            rw [h21] at h
            simp only [cond_false] at h
            cases h43 : Nat.beq t 43 with
            | true =>
              obtain rfl := beq_t h43
              rw [h43] at h
              simp only [cond_true] at h
              split at h
              · cases h
                simp only [List.map_cons, List.map_nil, List.cons.injEq, and_true] at he
                exact r_eqlm he.1 he.2
              · cases h
            | false => rw [h43] at h; cases h
      · cases h3 : Nat.beq t 3 with
        | true =>
          obtain rfl := beq_t h3
          rw [h3] at h
          simp only [cond_true] at h
          split at h
          · cases h
            simp only [List.map_cons, List.map_nil, List.cons.injEq, and_true] at he
            rw [r_sub64 he.1 he.2, lw0]
            rfl
          · cases h
            simp only [List.map_cons, List.map_nil, List.cons.injEq, and_true] at he
            rw [r_sub64 he.1 he.2, lw1]
            rfl
          · cases h
        | false =>
          rw [h3] at h
          simp only [cond_false] at h
          cases h21 : Nat.beq t 21 with
          | true =>
            obtain rfl := beq_t h21
            rw [h21] at h
            simp only [cond_true] at h
            split at h
            · cases h
              simp only [List.map_cons, List.map_nil, List.cons.injEq, and_true] at he
              exact r_sub32d he.1 he.2
            · cases h
          | false => rw [h21] at h; cases h
      · cases h3 : Nat.beq t 3 with
        | false => rw [h3] at h; cases h
        | true =>
          obtain rfl := beq_t h3
          rw [h3] at h
          simp only [cond_true] at h
          split at h
          · cases h
            simp only [List.map_cons, List.map_nil, List.cons.injEq, and_true] at he
            rw [r_add64 he.1 he.2, ls]
            rfl
          · cases h
      · cases h
  | call c =>
    simp only [pureD] at h
    split at h
    · rename_i hcal
      simp only [opnds, Option.some.injEq] at hxs
      subst hxs
      unfold dLen at h
      split at h
      · rename_i t hats
        cases h9 : Nat.beq t 9 with
        | false => rw [h9] at h; cases h
        | true =>
          obtain rfl := beq_t h9
          rw [h9] at h
          simp only [cond_true] at h
          split at h
          · cases h
            obtain ⟨u, hargs, h3⟩ := args_one he
            obtain ⟨cal, args, ats⟩ := c
            obtain ⟨la⟩ := ats
            simp only at hcal hargs hats
            subst hcal hargs hats
            exact r_len (ats := #[]) h3 hmx
          · cases h
            obtain ⟨u, hargs, h3⟩ := args_one he
            obtain ⟨cal, args, ats⟩ := c
            obtain ⟨la⟩ := ats
            simp only at hcal hargs hats
            subst hcal hargs hats
            exact r_len (ats := #[]) h3 (by omega)
          · cases h
      · cases h
    · cases h
  | _ => simp [pureD] at h
set_option maxHeartbeats 1000000 in
set_option maxRecDepth 100000 in
theorem soundD (n : Nat) (x : Cd) (hmx : x.S.size ≤ 140737488351232) (w0 : World) (hw : WorldOk w0 x.mp x.m) : Sound (rulesD x.left n) Tryd.prog x.V x.B (Rb w0) where
  isB := by
    intro t ht
    cases t <;> first | rfl | cases ht
  quiet := by
    intro o es e xs h hxs a w tr he hR
    have := pureD_run x hmx (hw.below hR).mask o h hxs a he
    unfold Oper.quietAt
    rw [this]
    exact ⟨rfl, rfl⟩
  mixed := by kernel_rfl
  drew := fun tr w n h => below_drewN h n
  rule := by
    intro o es e f xs h hxs a w tr next Q _ he hR hn
    have h' : (match pureD x.left o.op es with
      | some e => some (e, ([] : List Unit))
      | none => match callD x.left o.op es with
        | some e => some (e, [])
        | none => none) = some (e, f) := h
    split at h'
    · rename_i e2 h2
      cases h'
      have := pureD_run x hmx (hw.below hR).mask o h2 hxs a he
      unfold Oper.wp
      rw [this]
      exact hn w hR
    · split at h'
      · rename_i e2 h2
        cases h'
        obtain ⟨dst, op, ty, pos, af, gd⟩ := o
        simp only at h2 hxs hn
        have dec : ∀ (T : ByteArray) (fn : Nat) (u : Operand) (ats : Array TypeId) (val : Value), T.size ≤ x.S.size → Nat.beq fn (bif x.left then 57 else 58) = true → a.eval u = .string T → val = .tuple #[.int .i32 ((endD x.left T).1 : Int), .int .i64 ((endD x.left T).2 : Int)] →
            (∀ w', Rb w0 (tr ++ []) w' → next (a.put dst val) w') → Oper.wp Tryd.prog ⟨dst, .call { callee := .value (.func fn), args := #[u], argTypes := ats }, ty, pos, af, gd⟩ a w next Q := by
          intro T fn u ats val hT hf hu hv hnx
          subst hv
          cases hl : x.left with
          | true =>
            rw [hl] at hf hnx
            simp only [cond_true] at hf
            obtain rfl := beq_t hf
            refine s_dec57 (hw.below hR).tabs hu (fun w' hd => ?_)
            exact hnx w' (Below.trans hR (hd.mono hR.size))
          | false =>
            rw [hl] at hf hnx
            simp only [cond_false] at hf
            obtain rfl := beq_t hf
            refine s_dec58 (by omega) (hw.below hR).tabs hu (fun w' hd => ?_)
            exact hnx w' (Below.trans hR (hd.mono hR.size))
        cases op with
        | call c =>
          simp only [callD] at h2
          split at h2
          · rename_i fn hcal
            simp only [opnds, Option.some.injEq] at hxs
            subst hxs
            split at h2
            · rename_i b
              cases ht : Nat.beq fn 56 with
              | false => rw [ht] at h2; cases h2
              | true =>
                obtain rfl := beq_t ht
                rw [ht] at h2
                cases h2
                obtain ⟨u, v, hargs, h3, h4⟩ := args_two he
                obtain ⟨cal, args, ats⟩ := c
                simp only at hcal hargs
                subst hcal hargs
                refine s_has h3 h4 (fun w' hd => hn w' ?_)
                obtain ⟨k, rfl⟩ := hd
                exact below_drewN hR k
            · cases ht : Nat.beq fn (bif x.left then 57 else 58) with
              | false => rw [ht] at h2; cases h2
              | true =>
                rw [ht] at h2
                cases h2
                obtain ⟨u, hargs, h3⟩ := args_one he
                obtain ⟨cal, args, ats⟩ := c
                simp only at hcal hargs
                subst hcal hargs
                exact dec x.S fn u _ _ (Nat.le_refl _) ht h3 rfl hn
            · cases ht : Nat.beq fn (bif x.left then 57 else 58) with
              | false => rw [ht] at h2; cases h2
              | true =>
                rw [ht] at h2
                cases h2
                obtain ⟨u, hargs, h3⟩ := args_one he
                obtain ⟨cal, args, ats⟩ := c
                simp only at hcal hargs
                subst hcal hargs
                exact dec x.S1 fn u _ _ (cutD_le _ _) ht h3 rfl hn
            · cases h2
          · cases h2
        | _ => simp [callD] at h2
      · cases h'
end Go.Proofs.YtonmnpmklkbioaaDoor.Sy
/- Decode's statements ahead of its loop, as trees (reckoned). -/
namespace Go.Proofs.YtonmnpmklkbioaaDoor.Sy
open Go.RowKit Go.Proofs.YtonmnpmklkbioaaDoorW.PrintWords
set_option linter.unusedVariables false
set_option linter.unusedSimpArgs false
noncomputable def c44 : Code := Tryd.f44.body.getD .skip
noncomputable def e44 (k : Nat) : Code := nth (sp c44) k
def elsD : Code → Code
  | .seq _ (.cond _ _ y) => y
  | _ => .skip
def fstD : Code → Code
  | .seq a _ => a
  | c => c
def sndD : Code → Code
  | .seq _ b => b
  | c => c
noncomputable def lA (k : Nat) : Code := match k with
  | 0 => sndD (e44 4)
  | k + 1 => elsD (lA k)
noncomputable def lB (k : Nat) : Code := match k with
  | 0 => sndD (thn (lA 4))
  | k + 1 => elsD (lB k)
noncomputable def lC (k : Nat) : Code := match k with
  | 0 => sndD (e44 6)
  | k + 1 => elsD (lC k)
def d1 : DS Ad Unit := (.br (.meq (1)) (.leaf ⟨.ret, [some (.atom .s0), some (.atom .mptr), some (.atom .s0)], []⟩) (.leaf ⟨.normal, [some (.atom .s0), some (.atom .mptr), none], []⟩))
set_option maxRecDepth 1000000 in
theorem d1_is : (comp0 (rulesD true 553) ((e44 1)) [(1, .atom Ad.s0), (2, .atom Ad.mptr)]).map (fun d => norm (fun _ => none) (strip1 [1, 2, 4] d)) = some d1 := by kernel_rfl
def d2 : DS Ad Unit := (.br (.has (33554432)) (.br (.seq [239, 188, 142]) (.leaf ⟨.ret, [some (.atom .s0), some (.atom .mptr), some (.lit (.string (strB [46])))], []⟩) (.br (.seq [239, 188, 142, 239, 188, 142]) (.leaf ⟨.ret, [some (.atom .s0), some (.atom .mptr), some (.lit (.string (strB [46, 46])))], []⟩) (.br (.seq [226, 128, 155, 239, 188, 142]) (.leaf ⟨.ret, [some (.atom .s0), some (.atom .mptr), some (.lit (.string (strB [239, 188, 142])))], []⟩) (.br (.seq [226, 128, 155, 239, 188, 142, 226, 128, 155, 239, 188, 142]) (.leaf ⟨.ret, [some (.atom .s0), some (.atom .mptr), some (.lit (.string (strB [239, 188, 142, 239, 188, 142])))], []⟩) (.leaf ⟨.normal, [some (.atom .s0), some (.atom .mptr), none], []⟩))))) (.leaf ⟨.normal, [some (.atom .s0), some (.atom .mptr), none], []⟩))
set_option maxRecDepth 1000000 in
theorem d2_is : (comp0 (rulesD true 553) ((e44 2)) [(1, .atom Ad.s0), (2, .atom Ad.mptr)]).map (fun d => norm (fun _ => none) (strip1 [1, 2, 4] d)) = some d2 := by kernel_rfl
def d3 : DS Ad Unit := (.leaf ⟨.normal, [some (.atom .s0), some (.atom .mptr), some (.lit (.string (strB [])))], []⟩)
set_option maxRecDepth 1000000 in
theorem d3_is : (comp0 (rulesD true 553) ((e44 3)) [(1, .atom Ad.s0), (2, .atom Ad.mptr)]).map (fun d => norm (fun _ => none) (strip1 [1, 2, 5] d)) = some d3 := by kernel_rfl
def d40 : DS Ad Unit := (.leaf ⟨.normal, [some (.atom .s0), some (.atom .mptr), some (.lit (.string (strB []))), some (.atom .dr0), some (.atom .dw0)], []⟩)
set_option maxRecDepth 1000000 in
theorem d40_is : (comp0 (rulesD true 553) (fstD (e44 4)) [(1, .atom Ad.s0), (2, .atom Ad.mptr), (5, (.lit (.string ⟨#[]⟩)))]).map (fun d => norm (fun _ => none) (strip1 [1, 2, 5, 6, 7] d)) = some d40 := by kernel_rfl
def dA0 : DS Ad Unit := (.br (.has (131072)) (.leaf ⟨.normal, [some (.atom .s0), some (.atom .mptr), some (.lit (.string (strB []))), some (.atom .dr0), some (.atom .dw0), some (.atom (.r0c (9248)))], []⟩) (.leaf ⟨.normal, [some (.atom .s0), some (.atom .mptr), some (.lit (.string (strB []))), some (.atom .dr0), some (.atom .dw0), some (.lit (.bool false))], []⟩))
set_option maxRecDepth 1000000 in
theorem dA0_is : (comp0 (rulesD true 553) (fstD (lA 0)) [(1, .atom Ad.s0), (2, .atom Ad.mptr), (5, (.lit (.string ⟨#[]⟩))), (6, .atom Ad.dr0), (7, .atom Ad.dw0)]).map (fun d => norm (fun _ => none) (strip1 [1, 2, 5, 6, 7, 52] d)) = some dA0 := by kernel_rfl
def dA1 : DS Ad Unit := (.br (.has (262144)) (.leaf ⟨.normal, [some (.atom .s0), some (.atom .mptr), some (.lit (.string (strB []))), some (.atom .dr0), some (.atom .dw0), some (.atom (.r0c (65294)))], []⟩) (.leaf ⟨.normal, [some (.atom .s0), some (.atom .mptr), some (.lit (.string (strB []))), some (.atom .dr0), some (.atom .dw0), some (.lit (.bool false))], []⟩))
set_option maxRecDepth 1000000 in
theorem dA1_is : (comp0 (rulesD true 553) (fstD (lA 1)) [(1, .atom Ad.s0), (2, .atom Ad.mptr), (5, (.lit (.string ⟨#[]⟩))), (6, .atom Ad.dr0), (7, .atom Ad.dw0)]).map (fun d => norm (fun _ => none) (strip1 [1, 2, 5, 6, 7, 61] d)) = some dA1 := by kernel_rfl
def dA2 : DS Ad Unit := (.br (.has (524288)) (.leaf ⟨.normal, [some (.atom .s0), some (.atom .mptr), some (.lit (.string (strB []))), some (.atom .dr0), some (.atom .dw0), some (.atom (.r0c (65374)))], []⟩) (.leaf ⟨.normal, [some (.atom .s0), some (.atom .mptr), some (.lit (.string (strB []))), some (.atom .dr0), some (.atom .dw0), some (.lit (.bool false))], []⟩))
set_option maxRecDepth 1000000 in
theorem dA2_is : (comp0 (rulesD true 553) (fstD (lA 2)) [(1, .atom Ad.s0), (2, .atom Ad.mptr), (5, (.lit (.string ⟨#[]⟩))), (6, .atom Ad.dr0), (7, .atom Ad.dw0)]).map (fun d => norm (fun _ => none) (strip1 [1, 2, 5, 6, 7, 70] d)) = some dA2 := by kernel_rfl
def dA3 : DS Ad Unit := (.br (.has (1048576)) (.br (.r0c (9225)) (.leaf ⟨.normal, [some (.atom .s0), some (.atom .mptr), some (.lit (.string (strB []))), some (.atom .dr0), some (.atom .dw0), some (.lit (.bool true))], []⟩) (.br (.r0c (9226)) (.leaf ⟨.normal, [some (.atom .s0), some (.atom .mptr), some (.lit (.string (strB []))), some (.atom .dr0), some (.atom .dw0), some (.lit (.bool true))], []⟩) (.br (.r0c (9227)) (.leaf ⟨.normal, [some (.atom .s0), some (.atom .mptr), some (.lit (.string (strB []))), some (.atom .dr0), some (.atom .dw0), some (.lit (.bool true))], []⟩) (.leaf ⟨.normal, [some (.atom .s0), some (.atom .mptr), some (.lit (.string (strB []))), some (.atom .dr0), some (.atom .dw0), some (.atom (.r0c (9229)))], []⟩)))) (.leaf ⟨.normal, [some (.atom .s0), some (.atom .mptr), some (.lit (.string (strB []))), some (.atom .dr0), some (.atom .dw0), some (.lit (.bool false))], []⟩))
set_option maxRecDepth 1000000 in
theorem dA3_is : (comp0 (rulesD true 553) (fstD (lA 3)) [(1, .atom Ad.s0), (2, .atom Ad.mptr), (5, (.lit (.string ⟨#[]⟩))), (6, .atom Ad.dr0), (7, .atom Ad.dw0)]).map (fun d => norm (fun _ => none) (strip1 [1, 2, 5, 6, 7, 91] d)) = some dA3 := by kernel_rfl
def dA4 : DS Ad Unit := (.leaf ⟨.normal, [some (.atom .s0), some (.atom .mptr), some (.lit (.string (strB []))), some (.atom .dr0), some (.atom .dw0), some (.atom (.r0c (8219)))], []⟩)
set_option maxRecDepth 1000000 in
theorem dA4_is : (comp0 (rulesD true 553) (fstD (lA 4)) [(1, .atom Ad.s0), (2, .atom Ad.mptr), (5, (.lit (.string ⟨#[]⟩))), (6, .atom Ad.dr0), (7, .atom Ad.dw0)]).map (fun d => norm (fun _ => none) (strip1 [1, 2, 5, 6, 7, 99] d)) = some dA4 := by kernel_rfl
def dX0 : DS Ad Unit := (.leaf ⟨.normal, [some (.atom .s1), some (.atom .mptr), some (.lit (.string (strB [32])))], []⟩)
set_option maxRecDepth 1000000 in
theorem dX0_is : (comp0 (rulesD true 553) (thn (lA 0)) [(1, .atom Ad.s0), (2, .atom Ad.mptr), (5, (.lit (.string ⟨#[]⟩))), (6, .atom Ad.dr0), (7, .atom Ad.dw0)]).map (fun d => norm (fun _ => none) (strip1 [1, 2, 5] d)) = some dX0 := by kernel_rfl
def dX1 : DS Ad Unit := (.leaf ⟨.normal, [some (.atom .s1), some (.atom .mptr), some (.lit (.string (strB [46])))], []⟩)
set_option maxRecDepth 1000000 in
theorem dX1_is : (comp0 (rulesD true 553) (thn (lA 1)) [(1, .atom Ad.s0), (2, .atom Ad.mptr), (5, (.lit (.string ⟨#[]⟩))), (6, .atom Ad.dr0), (7, .atom Ad.dw0)]).map (fun d => norm (fun _ => none) (strip1 [1, 2, 5] d)) = some dX1 := by kernel_rfl
def dX2 : DS Ad Unit := (.leaf ⟨.normal, [some (.atom .s1), some (.atom .mptr), some (.lit (.string (strB [126])))], []⟩)
set_option maxRecDepth 1000000 in
theorem dX2_is : (comp0 (rulesD true 553) (thn (lA 2)) [(1, .atom Ad.s0), (2, .atom Ad.mptr), (5, (.lit (.string ⟨#[]⟩))), (6, .atom Ad.dr0), (7, .atom Ad.dw0)]).map (fun d => norm (fun _ => none) (strip1 [1, 2, 5] d)) = some dX2 := by kernel_rfl
def dX3 : DS Ad Unit := (.leaf ⟨.normal, [some (.atom .s1), some (.atom .mptr), some (.atom .sstr)], []⟩)
set_option maxRecDepth 1000000 in
theorem dX3_is : (comp0 (rulesD true 553) (thn (lA 3)) [(1, .atom Ad.s0), (2, .atom Ad.mptr), (5, (.lit (.string ⟨#[]⟩))), (6, .atom Ad.dr0), (7, .atom Ad.dw0)]).map (fun d => norm (fun _ => none) (strip1 [1, 2, 5] d)) = some dX3 := by kernel_rfl
def d41 : DS Ad Unit := (.leaf ⟨.normal, [some (.atom .s0), some (.atom .mptr), some (.lit (.string (strB []))), some (.atom .dr0), some (.atom .dw0), some (.atom .dr1), some (.atom .dw1)], []⟩)
set_option maxRecDepth 1000000 in
theorem d41_is : (comp0 (rulesD true 553) (fstD (thn (lA 4))) [(1, .atom Ad.s0), (2, .atom Ad.mptr), (5, (.lit (.string ⟨#[]⟩))), (6, .atom Ad.dr0), (7, .atom Ad.dw0)]).map (fun d => norm (fun _ => none) (strip1 [1, 2, 5, 6, 7, 8, 9] d)) = some d41 := by kernel_rfl
def dB0 : DS Ad Unit := (.br (.has (131072)) (.leaf ⟨.normal, [some (.atom .s0), some (.atom .mptr), some (.lit (.string (strB []))), some (.atom .dr0), some (.atom .dw0), some (.atom .dr1), some (.atom .dw1), some (.atom (.r1c (9248)))], []⟩) (.leaf ⟨.normal, [some (.atom .s0), some (.atom .mptr), some (.lit (.string (strB []))), some (.atom .dr0), some (.atom .dw0), some (.atom .dr1), some (.atom .dw1), some (.lit (.bool false))], []⟩))
set_option maxRecDepth 1000000 in
theorem dB0_is : (comp0 (rulesD true 553) (fstD (lB 0)) [(1, .atom Ad.s0), (2, .atom Ad.mptr), (5, (.lit (.string ⟨#[]⟩))), (6, .atom Ad.dr0), (7, .atom Ad.dw0), (8, .atom Ad.dr1), (9, .atom Ad.dw1)]).map (fun d => norm (fun _ => none) (strip1 [1, 2, 5, 6, 7, 8, 9, 112] d)) = some dB0 := by kernel_rfl
def dB1 : DS Ad Unit := (.br (.has (262144)) (.leaf ⟨.normal, [some (.atom .s0), some (.atom .mptr), some (.lit (.string (strB []))), some (.atom .dr0), some (.atom .dw0), some (.atom .dr1), some (.atom .dw1), some (.atom (.r1c (65294)))], []⟩) (.leaf ⟨.normal, [some (.atom .s0), some (.atom .mptr), some (.lit (.string (strB []))), some (.atom .dr0), some (.atom .dw0), some (.atom .dr1), some (.atom .dw1), some (.lit (.bool false))], []⟩))
set_option maxRecDepth 1000000 in
theorem dB1_is : (comp0 (rulesD true 553) (fstD (lB 1)) [(1, .atom Ad.s0), (2, .atom Ad.mptr), (5, (.lit (.string ⟨#[]⟩))), (6, .atom Ad.dr0), (7, .atom Ad.dw0), (8, .atom Ad.dr1), (9, .atom Ad.dw1)]).map (fun d => norm (fun _ => none) (strip1 [1, 2, 5, 6, 7, 8, 9, 123] d)) = some dB1 := by kernel_rfl
def dB2 : DS Ad Unit := (.br (.has (524288)) (.leaf ⟨.normal, [some (.atom .s0), some (.atom .mptr), some (.lit (.string (strB []))), some (.atom .dr0), some (.atom .dw0), some (.atom .dr1), some (.atom .dw1), some (.atom (.r1c (65374)))], []⟩) (.leaf ⟨.normal, [some (.atom .s0), some (.atom .mptr), some (.lit (.string (strB []))), some (.atom .dr0), some (.atom .dw0), some (.atom .dr1), some (.atom .dw1), some (.lit (.bool false))], []⟩))
set_option maxRecDepth 1000000 in
theorem dB2_is : (comp0 (rulesD true 553) (fstD (lB 2)) [(1, .atom Ad.s0), (2, .atom Ad.mptr), (5, (.lit (.string ⟨#[]⟩))), (6, .atom Ad.dr0), (7, .atom Ad.dw0), (8, .atom Ad.dr1), (9, .atom Ad.dw1)]).map (fun d => norm (fun _ => none) (strip1 [1, 2, 5, 6, 7, 8, 9, 134] d)) = some dB2 := by kernel_rfl
def dB3 : DS Ad Unit := (.br (.has (1048576)) (.br (.r1c (9225)) (.leaf ⟨.normal, [some (.atom .s0), some (.atom .mptr), some (.lit (.string (strB []))), some (.atom .dr0), some (.atom .dw0), some (.atom .dr1), some (.atom .dw1), some (.lit (.bool true))], []⟩) (.br (.r1c (9226)) (.leaf ⟨.normal, [some (.atom .s0), some (.atom .mptr), some (.lit (.string (strB []))), some (.atom .dr0), some (.atom .dw0), some (.atom .dr1), some (.atom .dw1), some (.lit (.bool true))], []⟩) (.br (.r1c (9227)) (.leaf ⟨.normal, [some (.atom .s0), some (.atom .mptr), some (.lit (.string (strB []))), some (.atom .dr0), some (.atom .dw0), some (.atom .dr1), some (.atom .dw1), some (.lit (.bool true))], []⟩) (.leaf ⟨.normal, [some (.atom .s0), some (.atom .mptr), some (.lit (.string (strB []))), some (.atom .dr0), some (.atom .dw0), some (.atom .dr1), some (.atom .dw1), some (.atom (.r1c (9229)))], []⟩)))) (.leaf ⟨.normal, [some (.atom .s0), some (.atom .mptr), some (.lit (.string (strB []))), some (.atom .dr0), some (.atom .dw0), some (.atom .dr1), some (.atom .dw1), some (.lit (.bool false))], []⟩))
set_option maxRecDepth 1000000 in
theorem dB3_is : (comp0 (rulesD true 553) (fstD (lB 3)) [(1, .atom Ad.s0), (2, .atom Ad.mptr), (5, (.lit (.string ⟨#[]⟩))), (6, .atom Ad.dr0), (7, .atom Ad.dw0), (8, .atom Ad.dr1), (9, .atom Ad.dw1)]).map (fun d => norm (fun _ => none) (strip1 [1, 2, 5, 6, 7, 8, 9, 157] d)) = some dB3 := by kernel_rfl
def dY0 : DS Ad Unit := (.leaf ⟨.normal, [some (.atom .s2), some (.atom .mptr), some (.lit (.string (strB [226, 144, 160])))], []⟩)
set_option maxRecDepth 1000000 in
theorem dY0_is : (comp0 (rulesD true 553) (thn (lB 0)) [(1, .atom Ad.s0), (2, .atom Ad.mptr), (5, (.lit (.string ⟨#[]⟩))), (6, .atom Ad.dr0), (7, .atom Ad.dw0), (8, .atom Ad.dr1), (9, .atom Ad.dw1)]).map (fun d => norm (fun _ => none) (strip1 [1, 2, 5] d)) = some dY0 := by kernel_rfl
def dY1 : DS Ad Unit := (.leaf ⟨.normal, [some (.atom .s2), some (.atom .mptr), some (.lit (.string (strB [239, 188, 142])))], []⟩)
set_option maxRecDepth 1000000 in
theorem dY1_is : (comp0 (rulesD true 553) (thn (lB 1)) [(1, .atom Ad.s0), (2, .atom Ad.mptr), (5, (.lit (.string ⟨#[]⟩))), (6, .atom Ad.dr0), (7, .atom Ad.dw0), (8, .atom Ad.dr1), (9, .atom Ad.dw1)]).map (fun d => norm (fun _ => none) (strip1 [1, 2, 5] d)) = some dY1 := by kernel_rfl
def dY2 : DS Ad Unit := (.leaf ⟨.normal, [some (.atom .s2), some (.atom .mptr), some (.lit (.string (strB [239, 189, 158])))], []⟩)
set_option maxRecDepth 1000000 in
theorem dY2_is : (comp0 (rulesD true 553) (thn (lB 2)) [(1, .atom Ad.s0), (2, .atom Ad.mptr), (5, (.lit (.string ⟨#[]⟩))), (6, .atom Ad.dr0), (7, .atom Ad.dw0), (8, .atom Ad.dr1), (9, .atom Ad.dw1)]).map (fun d => norm (fun _ => none) (strip1 [1, 2, 5] d)) = some dY2 := by kernel_rfl
def dY3 : DS Ad Unit := (.leaf ⟨.normal, [some (.atom .s2), some (.atom .mptr), some (.atom .rstr1)], []⟩)
set_option maxRecDepth 1000000 in
theorem dY3_is : (comp0 (rulesD true 553) (thn (lB 3)) [(1, .atom Ad.s0), (2, .atom Ad.mptr), (5, (.lit (.string ⟨#[]⟩))), (6, .atom Ad.dr0), (7, .atom Ad.dw0), (8, .atom Ad.dr1), (9, .atom Ad.dw1)]).map (fun d => norm (fun _ => none) (strip1 [1, 2, 5] d)) = some dY3 := by kernel_rfl
def d5 : DS Ad Unit := (.leaf ⟨.normal, [some (.atom .s0), some (.atom .mptr), some (.atom .pre), some (.lit (.string (strB [])))], []⟩)
set_option maxRecDepth 1000000 in
theorem d5_is : (comp0 (rulesD false 553) ((e44 5)) [(1, .atom Ad.s0), (2, .atom Ad.mptr), (5, .atom Ad.pre)]).map (fun d => norm (fun _ => none) (strip1 [1, 2, 5, 10] d)) = some d5 := by kernel_rfl
def d6a : DS Ad Unit := (.leaf ⟨.normal, [some (.atom .s0), some (.atom .mptr), some (.atom .pre), some (.lit (.string (strB []))), some (.atom .dr0), some (.atom .dw0)], []⟩)
set_option maxRecDepth 1000000 in
theorem d6a_is : (comp0 (rulesD false 553) (fstD (e44 6)) [(1, .atom Ad.s0), (2, .atom Ad.mptr), (5, .atom Ad.pre), (10, (.lit (.string ⟨#[]⟩)))]).map (fun d => norm (fun _ => none) (strip1 [1, 2, 5, 10, 11, 12] d)) = some d6a := by kernel_rfl
def dC0 : DS Ad Unit := (.br (.has (2097152)) (.leaf ⟨.normal, [some (.atom .s0), some (.atom .mptr), some (.atom .pre), some (.lit (.string (strB []))), some (.atom .dr0), some (.atom .dw0), some (.atom (.r0c (9248)))], []⟩) (.leaf ⟨.normal, [some (.atom .s0), some (.atom .mptr), some (.atom .pre), some (.lit (.string (strB []))), some (.atom .dr0), some (.atom .dw0), some (.lit (.bool false))], []⟩))
set_option maxRecDepth 1000000 in
theorem dC0_is : (comp0 (rulesD false 553) (fstD (lC 0)) [(1, .atom Ad.s0), (2, .atom Ad.mptr), (5, .atom Ad.pre), (10, (.lit (.string ⟨#[]⟩))), (11, .atom Ad.dr0), (12, .atom Ad.dw0)]).map (fun d => norm (fun _ => none) (strip1 [1, 2, 5, 10, 11, 12, 175] d)) = some dC0 := by kernel_rfl
def dC1 : DS Ad Unit := (.br (.has (4194304)) (.leaf ⟨.normal, [some (.atom .s0), some (.atom .mptr), some (.atom .pre), some (.lit (.string (strB []))), some (.atom .dr0), some (.atom .dw0), some (.atom (.r0c (65294)))], []⟩) (.leaf ⟨.normal, [some (.atom .s0), some (.atom .mptr), some (.atom .pre), some (.lit (.string (strB []))), some (.atom .dr0), some (.atom .dw0), some (.lit (.bool false))], []⟩))
set_option maxRecDepth 1000000 in
theorem dC1_is : (comp0 (rulesD false 553) (fstD (lC 1)) [(1, .atom Ad.s0), (2, .atom Ad.mptr), (5, .atom Ad.pre), (10, (.lit (.string ⟨#[]⟩))), (11, .atom Ad.dr0), (12, .atom Ad.dw0)]).map (fun d => norm (fun _ => none) (strip1 [1, 2, 5, 10, 11, 12, 200] d)) = some dC1 := by kernel_rfl
def dC2 : DS Ad Unit := (.br (.has (8388608)) (.br (.r0c (9225)) (.leaf ⟨.normal, [some (.atom .s0), some (.atom .mptr), some (.atom .pre), some (.lit (.string (strB []))), some (.atom .dr0), some (.atom .dw0), some (.lit (.bool true))], []⟩) (.br (.r0c (9226)) (.leaf ⟨.normal, [some (.atom .s0), some (.atom .mptr), some (.atom .pre), some (.lit (.string (strB []))), some (.atom .dr0), some (.atom .dw0), some (.lit (.bool true))], []⟩) (.br (.r0c (9227)) (.leaf ⟨.normal, [some (.atom .s0), some (.atom .mptr), some (.atom .pre), some (.lit (.string (strB []))), some (.atom .dr0), some (.atom .dw0), some (.lit (.bool true))], []⟩) (.leaf ⟨.normal, [some (.atom .s0), some (.atom .mptr), some (.atom .pre), some (.lit (.string (strB []))), some (.atom .dr0), some (.atom .dw0), some (.atom (.r0c (9229)))], []⟩)))) (.leaf ⟨.normal, [some (.atom .s0), some (.atom .mptr), some (.atom .pre), some (.lit (.string (strB []))), some (.atom .dr0), some (.atom .dw0), some (.lit (.bool false))], []⟩))
set_option maxRecDepth 1000000 in
theorem dC2_is : (comp0 (rulesD false 553) (fstD (lC 2)) [(1, .atom Ad.s0), (2, .atom Ad.mptr), (5, .atom Ad.pre), (10, (.lit (.string ⟨#[]⟩))), (11, .atom Ad.dr0), (12, .atom Ad.dw0)]).map (fun d => norm (fun _ => none) (strip1 [1, 2, 5, 10, 11, 12, 237] d)) = some dC2 := by kernel_rfl
def dZ0 : DS Ad Unit := (.br (.r1c (8219)) (.leaf ⟨.normal, [some (.atom .s2), some (.atom .mptr), some (.atom .pre), some (.lit (.string (strB [226, 144, 160])))], []⟩) (.leaf ⟨.normal, [some (.atom .s1), some (.atom .mptr), some (.atom .pre), some (.lit (.string (strB [32])))], []⟩))
set_option maxRecDepth 1000000 in
theorem dZ0_is : (comp0 (rulesD false 553) (thn (lC 0)) [(1, .atom Ad.s0), (2, .atom Ad.mptr), (5, .atom Ad.pre), (10, (.lit (.string ⟨#[]⟩))), (11, .atom Ad.dr0), (12, .atom Ad.dw0)]).map (fun d => norm (fun _ => none) (strip1 [1, 2, 5, 10] d)) = some dZ0 := by kernel_rfl
def dZ1 : DS Ad Unit := (.br (.r1c (8219)) (.leaf ⟨.normal, [some (.atom .s2), some (.atom .mptr), some (.atom .pre), some (.lit (.string (strB [239, 188, 142])))], []⟩) (.leaf ⟨.normal, [some (.atom .s1), some (.atom .mptr), some (.atom .pre), some (.lit (.string (strB [46])))], []⟩))
set_option maxRecDepth 1000000 in
theorem dZ1_is : (comp0 (rulesD false 553) (thn (lC 1)) [(1, .atom Ad.s0), (2, .atom Ad.mptr), (5, .atom Ad.pre), (10, (.lit (.string ⟨#[]⟩))), (11, .atom Ad.dr0), (12, .atom Ad.dw0)]).map (fun d => norm (fun _ => none) (strip1 [1, 2, 5, 10] d)) = some dZ1 := by kernel_rfl
def dZ2 : DS Ad Unit := (.br (.r1c (8219)) (.leaf ⟨.normal, [some (.atom .s2), some (.atom .mptr), some (.atom .pre), some (.atom .rstr0)], []⟩) (.leaf ⟨.normal, [some (.atom .s1), some (.atom .mptr), some (.atom .pre), some (.atom .sstr)], []⟩))
set_option maxRecDepth 1000000 in
theorem dZ2_is : (comp0 (rulesD false 553) (thn (lC 2)) [(1, .atom Ad.s0), (2, .atom Ad.mptr), (5, .atom Ad.pre), (10, (.lit (.string ⟨#[]⟩))), (11, .atom Ad.dr0), (12, .atom Ad.dw0)]).map (fun d => norm (fun _ => none) (strip1 [1, 2, 5, 10] d)) = some dZ2 := by kernel_rfl
def k7 : DS As Unit := (.leaf ⟨.normal, [some (.atom .kept), some (.atom .mptr), some (.atom .pre), some (.atom .suf), some (.lit (.int .i64 (0)))], []⟩)
set_option maxRecDepth 1000000 in
theorem k7_is : (comp0 (rulesS true 553) ((e44 7)) [(1, .atom As.kept), (2, .atom As.mptr), (5, .atom As.pre), (10, .atom As.suf)]).map (fun d => norm (fun _ => none) (strip1 [1, 2, 5, 10, 19] d)) = some k7 := by kernel_rfl
def k8a : DS As Unit := (.br As.pe (.leaf ⟨.normal, [some (.atom .kept), some (.atom .mptr), some (.atom .pre), some (.atom .suf), some (.lit (.int .i64 (0))), some (.atom .se)], []⟩) (.leaf ⟨.normal, [some (.atom .kept), some (.atom .mptr), some (.atom .pre), some (.atom .suf), some (.lit (.int .i64 (0))), some (.lit (.bool false))], []⟩))
set_option maxRecDepth 1000000 in
theorem k8a_is : (comp0 (rulesS true 553) ((nth (sp (e44 8)) 0)) [(1, .atom As.kept), (2, .atom As.mptr), (5, .atom As.pre), (10, .atom As.suf), (19, .lit (.int .i64 0))]).map (fun d => norm (fun _ => none) (strip1 [1, 2, 5, 10, 19, 267] d)) = some k8a := by kernel_rfl
def k8b : DS As Unit := (.leaf ⟨.normal, [some (.atom .kept), some (.atom .mptr), some (.atom .pre), some (.atom .suf), some (E.atom (.idx 68))], []⟩)
set_option maxRecDepth 1000000 in
theorem k8b_is : (comp0 (rulesS true 553) ((thn (e44 8))) [(1, .atom As.kept), (2, .atom As.mptr), (5, .atom As.pre), (10, .atom As.suf)]).map (fun d => norm (fun _ => none) (strip1 [1, 2, 5, 10, 19] d)) = some k8b := by kernel_rfl
end Go.Proofs.YtonmnpmklkbioaaDoor.Sy
/- The walk of Decode's statements ahead of its buffer. -/
namespace Go.Proofs.YtonmnpmklkbioaaDoor.Sy
open Go.RowKit Go.Proofs.YtonmnpmklkbioaaDoorW.PrintWords
set_option linter.unusedVariables false
set_option linter.unusedSimpArgs false
theorem sd_step {left : Bool} {c rest : Code} {d : DS Ad Unit} {env : Env Ad} {ks : List Nat} {l : List (Nat × Value)} (x : Cd) (hl : x.left = left) (hmx : x.S.size ≤ 140737488351232) {w0 : World} (hw : WorldOk w0 x.mp x.m)
    (his : (comp0 (rulesD left 553) c env).map (fun D => norm (fun _ => none) (strip1 ks D)) = some d) (hrun : (d.run x.B).x = .normal ∧ (d.run x.B).tr = [] ∧ vals x.V ks (d.run x.B).es = l) {a : Act} {w : World} {Q : Exit → Act → World → Prop}
    (hA : St 553 (env.map fun p => (p.1, p.2.val x.V)) a) (hR : Below w0.heap.size w0 w) (hQ : ∀ a' w', St 553 l a' → Below w0.heap.size w0 w' → rest.wp Tryd.prog Q a' w') : (Code.seq c rest).wp Tryd.prog Q a w := by
  subst hl
  refine wp_seq (tree_st (soundD 553 x hmx w0 hw) his hA hR (by rw [hrun.1]; intro h; cases h) (fun a' w' h1 h2 => ?_))
  rw [hrun.1]
  rw [hrun.2.2] at h1
  exact hQ a' w' h1 h2
theorem sd_last {left : Bool} {c : Code} {d : DS Ad Unit} {env : Env Ad} {ks : List Nat} {l : List (Nat × Value)} (x : Cd) (hl : x.left = left) (hmx : x.S.size ≤ 140737488351232) {w0 : World} (hw : WorldOk w0 x.mp x.m)
    (his : (comp0 (rulesD left 553) c env).map (fun D => norm (fun _ => none) (strip1 ks D)) = some d) (hrun : (d.run x.B).x = .normal ∧ (d.run x.B).tr = [] ∧ vals x.V ks (d.run x.B).es = l) {a : Act} {w : World} {Q : Exit → Act → World → Prop}
    (hA : St 553 (env.map fun p => (p.1, p.2.val x.V)) a) (hR : Below w0.heap.size w0 w) (hQ : ∀ a' w', St 553 l a' → Below w0.heap.size w0 w' → Q .normal a' w') : c.wp Tryd.prog Q a w := by
  subst hl
  refine tree_st (soundD 553 x hmx w0 hw) his hA hR (by rw [hrun.1]; intro h; cases h) (fun a' w' h1 h2 => ?_)
  rw [hrun.1]
  rw [hrun.2.2] at h1
  exact hQ a' w' h1 h2
theorem sd_cond {left : Bool} {c X Y : Code} {t : Nat} {b : Bool} {d : DS Ad Unit} {env : Env Ad} {ks : List Nat} {l : List (Nat × Value)} (x : Cd) (hl : x.left = left) (hmx : x.S.size ≤ 140737488351232) {w0 : World} (hw : WorldOk w0 x.mp x.m)
    (his : (comp0 (rulesD left 553) c env).map (fun D => norm (fun _ => none) (strip1 ks D)) = some d) (hrun : (d.run x.B).x = .normal ∧ (d.run x.B).tr = [] ∧ vals x.V ks (d.run x.B).es = l ++ [(t, .bool b)]) {a : Act} {w : World} {Q : Exit → Act → World → Prop}
    (hA : St 553 (env.map fun p => (p.1, p.2.val x.V)) a) (hR : Below w0.heap.size w0 w) (hT : b = true → ∀ a' w', St 553 l a' → Below w0.heap.size w0 w' → X.wp Tryd.prog Q a' w') (hF : b = false → ∀ a' w', St 553 l a' → Below w0.heap.size w0 w' → Y.wp Tryd.prog Q a' w') :
    (Code.seq c (.cond (.tmp t) X Y)).wp Tryd.prog Q a w := by
  refine sd_step x hl hmx hw his hrun hA hR (fun a' w' h1 h2 => ?_)
  have h3 : St 553 l a' := st_sub h1 (fun p hp => List.mem_append_left _ hp)
  have h4 : a'.eval (.tmp t) = .bool b := st_eval h1 (List.mem_append_right _ List.mem_cons_self)
  cases b with
  | true => exact wp_cond_true h4 (hT rfl a' w' h3 h2)
  | false => exact wp_cond_false h4 (hF rfl a' w' h3 h2)
/-- What a sign at the left end stands for, if a bit of the left reads it. -/
def dl1 (m r : Int) : Option Int :=
  if (hasB m 131072 && r == 9248) = true then some 32 else if (hasB m 262144 && r == 65294) = true then some 46 else if (hasB m 524288 && r == 65374) = true then some 126
  else if (hasB m 1048576 && (r == 9225 || r == 9226 || r == 9227 || r == 9229)) = true then some (IntKind.i32.wrap (r - 9216)) else none
def dr1 (m r : Int) : Option Int :=
  if (hasB m 2097152 && r == 9248) = true then some 32 else if (hasB m 4194304 && r == 65294) = true then some 46
  else if (hasB m 8388608 && (r == 9225 || r == 9226 || r == 9227 || r == 9229)) = true then some (IntKind.i32.wrap (r - 9216)) else none
abbrev runeB (r : Int) : ByteArray := strB (Lib.encodeRune r)
def dleftO (m : Int) (S : ByteArray) : ByteArray × ByteArray :=
  match dl1 m ((endD true S).1 : Int) with
  | some c => (cutD true S, runeB c)
  | none => if ((endD true S).1 : Int) == 8219 then (match dl1 m ((endD true (cutD true S)).1 : Int) with
    | some _ => (cutD true (cutD true S), runeB ((endD true (cutD true S)).1 : Int))
    | none => (S, noB)) else (S, noB)
def drightO (m : Int) (S : ByteArray) : ByteArray × ByteArray :=
  match dr1 m ((endD false S).1 : Int) with
  | some c => if ((endD false (cutD false S)).1 : Int) == 8219 then (cutD false (cutD false S), runeB ((endD false S).1 : Int)) else (cutD false S, runeB c)
  | none => (S, noB)
theorem eA_is : e44 4 = .seq (fstD (e44 4)) (lA 0) := by kernel_rfl
theorem lA0_is : lA 0 = .seq (fstD (lA 0)) (.cond (.tmp 52) (thn (lA 0)) (lA 1)) := by kernel_rfl
theorem lA1_is : lA 1 = .seq (fstD (lA 1)) (.cond (.tmp 61) (thn (lA 1)) (lA 2)) := by kernel_rfl
theorem lA2_is : lA 2 = .seq (fstD (lA 2)) (.cond (.tmp 70) (thn (lA 2)) (lA 3)) := by kernel_rfl
theorem lA3_is : lA 3 = .seq (fstD (lA 3)) (.cond (.tmp 91) (thn (lA 3)) (lA 4)) := by kernel_rfl
theorem lA4_is : lA 4 = .seq (fstD (lA 4)) (.cond (.tmp 99) (thn (lA 4)) .skip) := by kernel_rfl
theorem tA4_is : thn (lA 4) = .seq (fstD (thn (lA 4))) (lB 0) := by kernel_rfl
theorem lB0_is : lB 0 = .seq (fstD (lB 0)) (.cond (.tmp 112) (thn (lB 0)) (lB 1)) := by kernel_rfl
theorem lB1_is : lB 1 = .seq (fstD (lB 1)) (.cond (.tmp 123) (thn (lB 1)) (lB 2)) := by kernel_rfl
theorem lB2_is : lB 2 = .seq (fstD (lB 2)) (.cond (.tmp 134) (thn (lB 2)) (lB 3)) := by kernel_rfl
theorem lB3_is : lB 3 = .seq (fstD (lB 3)) (.cond (.tmp 157) (thn (lB 3)) .skip) := by kernel_rfl
theorem eC_is : e44 6 = .seq (fstD (e44 6)) (lC 0) := by kernel_rfl
theorem lC0_is : lC 0 = .seq (fstD (lC 0)) (.cond (.tmp 175) (thn (lC 0)) (lC 1)) := by kernel_rfl
theorem lC1_is : lC 1 = .seq (fstD (lC 1)) (.cond (.tmp 200) (thn (lC 1)) (lC 2)) := by kernel_rfl
theorem lC2_is : lC 2 = .seq (fstD (lC 2)) (.cond (.tmp 237) (thn (lC 2)) .skip) := by kernel_rfl
abbrev vL (x : Cd) : List (Nat × Value) := [(1, .string x.S), (2, .pointer (some x.mp)), (5, .string noB), (6, .int .i32 (x.d0.1 : Int)), (7, .int .i64 (x.d0.2 : Int))]
abbrev vM (x : Cd) : List (Nat × Value) := [(1, .string x.S), (2, .pointer (some x.mp)), (5, .string noB), (6, .int .i32 (x.d0.1 : Int)), (7, .int .i64 (x.d0.2 : Int)), (8, .int .i32 (x.d1.1 : Int)), (9, .int .i64 (x.d1.2 : Int))]
abbrev vR (x : Cd) : List (Nat × Value) := [(1, .string x.S), (2, .pointer (some x.mp)), (5, .string x.P0), (10, .string noB), (11, .int .i32 (x.d0.1 : Int)), (12, .int .i64 (x.d0.2 : Int))]
section
variable (x : Cd)
theorem dA0_run : (dA0.run x.B).x = .normal ∧ (dA0.run x.B).tr = [] ∧ vals x.V [1, 2, 5, 6, 7, 52] (dA0.run x.B).es = vL x ++ [(52, .bool (hasB x.m 131072 && (x.d0.1 : Int) == 9248))] := by
  unfold dA0; simp only [DS.run, Cd.B]; cases hasB x.m 131072 <;> exact ⟨rfl, rfl, rfl⟩
theorem dA1_run : (dA1.run x.B).x = .normal ∧ (dA1.run x.B).tr = [] ∧ vals x.V [1, 2, 5, 6, 7, 61] (dA1.run x.B).es = vL x ++ [(61, .bool (hasB x.m 262144 && (x.d0.1 : Int) == 65294))] := by
  unfold dA1; simp only [DS.run, Cd.B]; cases hasB x.m 262144 <;> exact ⟨rfl, rfl, rfl⟩
theorem dA2_run : (dA2.run x.B).x = .normal ∧ (dA2.run x.B).tr = [] ∧ vals x.V [1, 2, 5, 6, 7, 70] (dA2.run x.B).es = vL x ++ [(70, .bool (hasB x.m 524288 && (x.d0.1 : Int) == 65374))] := by
  unfold dA2; simp only [DS.run, Cd.B]; cases hasB x.m 524288 <;> exact ⟨rfl, rfl, rfl⟩
theorem dA3_run : (dA3.run x.B).x = .normal ∧ (dA3.run x.B).tr = [] ∧ vals x.V [1, 2, 5, 6, 7, 91] (dA3.run x.B).es = vL x ++ [(91, .bool (hasB x.m 1048576 && ((x.d0.1 : Int) == 9225 || (x.d0.1 : Int) == 9226 || (x.d0.1 : Int) == 9227 || (x.d0.1 : Int) == 9229)))] := by
  unfold dA3; simp only [DS.run, Cd.B]
  cases hasB x.m 1048576
  · exact ⟨rfl, rfl, rfl⟩
  · cases (x.d0.1 : Int) == 9225
    · cases (x.d0.1 : Int) == 9226
      · cases (x.d0.1 : Int) == 9227
        · exact ⟨rfl, rfl, rfl⟩
        · exact ⟨rfl, rfl, rfl⟩
      · exact ⟨rfl, rfl, rfl⟩
    · exact ⟨rfl, rfl, rfl⟩
theorem dB0_run : (dB0.run x.B).x = .normal ∧ (dB0.run x.B).tr = [] ∧ vals x.V [1, 2, 5, 6, 7, 8, 9, 112] (dB0.run x.B).es = vM x ++ [(112, .bool (hasB x.m 131072 && (x.d1.1 : Int) == 9248))] := by
  unfold dB0; simp only [DS.run, Cd.B]; cases hasB x.m 131072 <;> exact ⟨rfl, rfl, rfl⟩
theorem dB1_run : (dB1.run x.B).x = .normal ∧ (dB1.run x.B).tr = [] ∧ vals x.V [1, 2, 5, 6, 7, 8, 9, 123] (dB1.run x.B).es = vM x ++ [(123, .bool (hasB x.m 262144 && (x.d1.1 : Int) == 65294))] := by
  unfold dB1; simp only [DS.run, Cd.B]; cases hasB x.m 262144 <;> exact ⟨rfl, rfl, rfl⟩
theorem dB2_run : (dB2.run x.B).x = .normal ∧ (dB2.run x.B).tr = [] ∧ vals x.V [1, 2, 5, 6, 7, 8, 9, 134] (dB2.run x.B).es = vM x ++ [(134, .bool (hasB x.m 524288 && (x.d1.1 : Int) == 65374))] := by
  unfold dB2; simp only [DS.run, Cd.B]; cases hasB x.m 524288 <;> exact ⟨rfl, rfl, rfl⟩
theorem dB3_run : (dB3.run x.B).x = .normal ∧ (dB3.run x.B).tr = [] ∧ vals x.V [1, 2, 5, 6, 7, 8, 9, 157] (dB3.run x.B).es = vM x ++ [(157, .bool (hasB x.m 1048576 && ((x.d1.1 : Int) == 9225 || (x.d1.1 : Int) == 9226 || (x.d1.1 : Int) == 9227 || (x.d1.1 : Int) == 9229)))] := by
  unfold dB3; simp only [DS.run, Cd.B]
  cases hasB x.m 1048576
  · exact ⟨rfl, rfl, rfl⟩
  · cases (x.d1.1 : Int) == 9225
    · cases (x.d1.1 : Int) == 9226
      · cases (x.d1.1 : Int) == 9227
        · exact ⟨rfl, rfl, rfl⟩
        · exact ⟨rfl, rfl, rfl⟩
      · exact ⟨rfl, rfl, rfl⟩
    · exact ⟨rfl, rfl, rfl⟩
theorem dC0_run : (dC0.run x.B).x = .normal ∧ (dC0.run x.B).tr = [] ∧ vals x.V [1, 2, 5, 10, 11, 12, 175] (dC0.run x.B).es = vR x ++ [(175, .bool (hasB x.m 2097152 && (x.d0.1 : Int) == 9248))] := by
  unfold dC0; simp only [DS.run, Cd.B]; cases hasB x.m 2097152 <;> exact ⟨rfl, rfl, rfl⟩
theorem dC1_run : (dC1.run x.B).x = .normal ∧ (dC1.run x.B).tr = [] ∧ vals x.V [1, 2, 5, 10, 11, 12, 200] (dC1.run x.B).es = vR x ++ [(200, .bool (hasB x.m 4194304 && (x.d0.1 : Int) == 65294))] := by
  unfold dC1; simp only [DS.run, Cd.B]; cases hasB x.m 4194304 <;> exact ⟨rfl, rfl, rfl⟩
theorem dC2_run : (dC2.run x.B).x = .normal ∧ (dC2.run x.B).tr = [] ∧ vals x.V [1, 2, 5, 10, 11, 12, 237] (dC2.run x.B).es = vR x ++ [(237, .bool (hasB x.m 8388608 && ((x.d0.1 : Int) == 9225 || (x.d0.1 : Int) == 9226 || (x.d0.1 : Int) == 9227 || (x.d0.1 : Int) == 9229)))] := by
  unfold dC2; simp only [DS.run, Cd.B]
  cases hasB x.m 8388608
  · exact ⟨rfl, rfl, rfl⟩
  · cases (x.d0.1 : Int) == 9225
    · cases (x.d0.1 : Int) == 9226
      · cases (x.d0.1 : Int) == 9227
        · exact ⟨rfl, rfl, rfl⟩
        · exact ⟨rfl, rfl, rfl⟩
      · exact ⟨rfl, rfl, rfl⟩
    · exact ⟨rfl, rfl, rfl⟩
end
theorem and_eq {p : Bool} {a b : Int} (h : (p && a == b) = true) : a = b := by
  simp only [Bool.and_eq_true, beq_iff_eq] at h; exact h.2
theorem dleft_wp {mp : Addr} {m : Int} {S : ByteArray} (hm : S.size ≤ 140737488351232) {w0 : World} (hw : WorldOk w0 mp m) {Q : Exit → Act → World → Prop} {a : Act} {w : World}
    (hA : St 553 [(1, .string S), (2, .pointer (some mp)), (5, .string noB)] a) (hR : Below w0.heap.size w0 w)
    (hQ : ∀ a' w', St 553 [(1, .string (dleftO m S).1), (2, .pointer (some mp)), (5, .string (dleftO m S).2)] a' → Below w0.heap.size w0 w' → Q .normal a' w') : (e44 4).wp Tryd.prog Q a w := by
  let x : Cd := ⟨mp, m, S, true, noB⟩
  rw [eA_is]
  refine sd_step x rfl hm hw d40_is (l := vL x) ⟨rfl, rfl, rfl⟩ hA hR (fun a1 w1 h1 hR1 => ?_)
  rw [lA0_is]
  unfold dleftO dl1 at hQ
  refine sd_cond x rfl hm hw dA0_is (dA0_run x) h1 hR1 (fun hb a2 w2 h2 hR2 => ?_) (fun hb a2 w2 h2 hR2 => ?_)
  · have hb' : (hasB m 131072 && ((endD true S).1 : Int) == 9248) = true := hb
    rw [if_pos hb'] at hQ
    exact sd_last x rfl hm hw dX0_is (l := [(1, .string (cutD true S)), (2, .pointer (some mp)), (5, .string (runeB 32))]) ⟨rfl, rfl, rfl⟩ h2 hR2 hQ
  have hb0 : ¬ (hasB m 131072 && ((endD true S).1 : Int) == 9248) = true := by rw [show (hasB m 131072 && ((endD true S).1 : Int) == 9248) = false from hb]; decide
  rw [if_neg hb0] at hQ
  clear hb0 hb
  rw [lA1_is]
  refine sd_cond x rfl hm hw dA1_is (dA1_run x) h2 hR2 (fun hb a3 w3 h3 hR3 => ?_) (fun hb a3 w3 h3 hR3 => ?_)
  · have hb' : (hasB m 262144 && ((endD true S).1 : Int) == 65294) = true := hb
    rw [if_pos hb'] at hQ
    exact sd_last x rfl hm hw dX1_is (l := [(1, .string (cutD true S)), (2, .pointer (some mp)), (5, .string (runeB 46))]) ⟨rfl, rfl, rfl⟩ h3 hR3 hQ
  have hb0 : ¬ (hasB m 262144 && ((endD true S).1 : Int) == 65294) = true := by rw [show (hasB m 262144 && ((endD true S).1 : Int) == 65294) = false from hb]; decide
  rw [if_neg hb0] at hQ
  clear hb0 hb
  rw [lA2_is]
  refine sd_cond x rfl hm hw dA2_is (dA2_run x) h3 hR3 (fun hb a4 w4 h4 hR4 => ?_) (fun hb a4 w4 h4 hR4 => ?_)
  · have hb' : (hasB m 524288 && ((endD true S).1 : Int) == 65374) = true := hb
    rw [if_pos hb'] at hQ
    exact sd_last x rfl hm hw dX2_is (l := [(1, .string (cutD true S)), (2, .pointer (some mp)), (5, .string (runeB 126))]) ⟨rfl, rfl, rfl⟩ h4 hR4 hQ
  have hb0 : ¬ (hasB m 524288 && ((endD true S).1 : Int) == 65374) = true := by rw [show (hasB m 524288 && ((endD true S).1 : Int) == 65374) = false from hb]; decide
  rw [if_neg hb0] at hQ
  clear hb0 hb
  rw [lA3_is]
  refine sd_cond x rfl hm hw dA3_is (dA3_run x) h4 hR4 (fun hb a5 w5 h5 hR5 => ?_) (fun hb a5 w5 h5 hR5 => ?_)
  · have hb' : (hasB m 1048576 && (((endD true S).1 : Int) == 9225 || ((endD true S).1 : Int) == 9226 || ((endD true S).1 : Int) == 9227 || ((endD true S).1 : Int) == 9229)) = true := hb
    rw [if_pos hb'] at hQ
    exact sd_last x rfl hm hw dX3_is (l := [(1, .string (cutD true S)), (2, .pointer (some mp)), (5, .string (runeB (IntKind.i32.wrap (((endD true S).1 : Int) - 9216))))]) ⟨rfl, rfl, rfl⟩ h5 hR5 hQ
  have hb0 : ¬ (hasB m 1048576 && (((endD true S).1 : Int) == 9225 || ((endD true S).1 : Int) == 9226 || ((endD true S).1 : Int) == 9227 || ((endD true S).1 : Int) == 9229)) = true := by
    rw [show (hasB m 1048576 && (((endD true S).1 : Int) == 9225 || ((endD true S).1 : Int) == 9226 || ((endD true S).1 : Int) == 9227 || ((endD true S).1 : Int) == 9229)) = false from hb]; decide
  rw [if_neg hb0] at hQ
  clear hb0 hb
  dsimp only at hQ
  rw [lA4_is]
  refine sd_cond x rfl hm hw dA4_is (b := ((endD true S).1 : Int) == 8219) (l := vL x) ⟨rfl, rfl, rfl⟩ h5 hR5 (fun hb a6 w6 h6 hR6 => ?_) (fun hb a6 w6 h6 hR6 => ?_)
  rotate_left 1
  · rw [hb] at hQ
    refine wp_skip ?_
    exact hQ a6 w6 (st_sub h6 (by simp [x])) hR6
  rw [hb] at hQ
  simp only [if_true] at hQ
  rw [tA4_is]
  refine sd_step x rfl hm hw d41_is (l := vM x) ⟨rfl, rfl, rfl⟩ h6 hR6 (fun a7 w7 h7 hR7 => ?_)
  clear h1 h2 h3 h4 h5 h6 hR1 hR2 hR3 hR4 hR5 hR6
  rw [lB0_is]
  refine sd_cond x rfl hm hw dB0_is (dB0_run x) h7 hR7 (fun hb a2 w2 h2 hR2 => ?_) (fun hb a2 w2 h2 hR2 => ?_)
  · have hb' : (hasB m 131072 && ((endD true (cutD true S)).1 : Int) == 9248) = true := hb
    rw [if_pos hb', and_eq hb'] at hQ
    exact sd_last x rfl hm hw dY0_is (l := [(1, .string (cutD true (cutD true S))), (2, .pointer (some mp)), (5, .string (runeB 9248))]) ⟨rfl, rfl, rfl⟩ h2 hR2 hQ
  have hb0 : ¬ (hasB m 131072 && ((endD true (cutD true S)).1 : Int) == 9248) = true := by rw [show (hasB m 131072 && ((endD true (cutD true S)).1 : Int) == 9248) = false from hb]; decide
  rw [if_neg hb0] at hQ
  clear hb0 hb
  rw [lB1_is]
  refine sd_cond x rfl hm hw dB1_is (dB1_run x) h2 hR2 (fun hb a3 w3 h3 hR3 => ?_) (fun hb a3 w3 h3 hR3 => ?_)
  · have hb' : (hasB m 262144 && ((endD true (cutD true S)).1 : Int) == 65294) = true := hb
    rw [if_pos hb', and_eq hb'] at hQ
    exact sd_last x rfl hm hw dY1_is (l := [(1, .string (cutD true (cutD true S))), (2, .pointer (some mp)), (5, .string (runeB 65294))]) ⟨rfl, rfl, rfl⟩ h3 hR3 hQ
  have hb0 : ¬ (hasB m 262144 && ((endD true (cutD true S)).1 : Int) == 65294) = true := by rw [show (hasB m 262144 && ((endD true (cutD true S)).1 : Int) == 65294) = false from hb]; decide
  rw [if_neg hb0] at hQ
  clear hb0 hb
  rw [lB2_is]
  refine sd_cond x rfl hm hw dB2_is (dB2_run x) h3 hR3 (fun hb a4 w4 h4 hR4 => ?_) (fun hb a4 w4 h4 hR4 => ?_)
  · have hb' : (hasB m 524288 && ((endD true (cutD true S)).1 : Int) == 65374) = true := hb
    rw [if_pos hb', and_eq hb'] at hQ
    exact sd_last x rfl hm hw dY2_is (l := [(1, .string (cutD true (cutD true S))), (2, .pointer (some mp)), (5, .string (runeB 65374))]) ⟨rfl, rfl, rfl⟩ h4 hR4 hQ
  have hb0 : ¬ (hasB m 524288 && ((endD true (cutD true S)).1 : Int) == 65374) = true := by rw [show (hasB m 524288 && ((endD true (cutD true S)).1 : Int) == 65374) = false from hb]; decide
  rw [if_neg hb0] at hQ
  clear hb0 hb
  rw [lB3_is]
  refine sd_cond x rfl hm hw dB3_is (dB3_run x) h4 hR4 (fun hb a5 w5 h5 hR5 => ?_) (fun hb a5 w5 h5 hR5 => ?_)
  · have hb' : (hasB m 1048576 && (((endD true (cutD true S)).1 : Int) == 9225 || ((endD true (cutD true S)).1 : Int) == 9226 || ((endD true (cutD true S)).1 : Int) == 9227 || ((endD true (cutD true S)).1 : Int) == 9229)) = true := hb
    rw [if_pos hb'] at hQ
    exact sd_last x rfl hm hw dY3_is (l := [(1, .string (cutD true (cutD true S))), (2, .pointer (some mp)), (5, .string (runeB ((endD true (cutD true S)).1 : Int)))]) ⟨rfl, rfl, rfl⟩ h5 hR5 hQ
  have hb0 : ¬ (hasB m 1048576 && (((endD true (cutD true S)).1 : Int) == 9225 || ((endD true (cutD true S)).1 : Int) == 9226 || ((endD true (cutD true S)).1 : Int) == 9227 || ((endD true (cutD true S)).1 : Int) == 9229)) = true := by
    rw [show (hasB m 1048576 && (((endD true (cutD true S)).1 : Int) == 9225 || ((endD true (cutD true S)).1 : Int) == 9226 || ((endD true (cutD true S)).1 : Int) == 9227 || ((endD true (cutD true S)).1 : Int) == 9229)) = false from hb]; decide
  rw [if_neg hb0] at hQ
  refine wp_skip ?_
  exact hQ a5 w5 (st_sub h5 (by simp [x])) hR5
theorem dright_wp {mp : Addr} {m : Int} {S P : ByteArray} (hm : S.size ≤ 140737488351232) {w0 : World} (hw : WorldOk w0 mp m) {Q : Exit → Act → World → Prop} {a : Act} {w : World}
    (hA : St 553 [(1, .string S), (2, .pointer (some mp)), (5, .string P), (10, .string noB)] a) (hR : Below w0.heap.size w0 w)
    (hQ : ∀ a' w', St 553 [(1, .string (drightO m S).1), (2, .pointer (some mp)), (5, .string P), (10, .string (drightO m S).2)] a' → Below w0.heap.size w0 w' → Q .normal a' w') : (e44 6).wp Tryd.prog Q a w := by
  let x : Cd := ⟨mp, m, S, false, P⟩
  rw [eC_is]
  refine sd_step x rfl hm hw d6a_is (l := vR x) ⟨rfl, rfl, rfl⟩ hA hR (fun a1 w1 h1 hR1 => ?_)
  rw [lC0_is]
  unfold drightO dr1 at hQ
  refine sd_cond x rfl hm hw dC0_is (dC0_run x) h1 hR1 (fun hb a2 w2 h2 hR2 => ?_) (fun hb a2 w2 h2 hR2 => ?_)
  · have hb' : (hasB m 2097152 && ((endD false S).1 : Int) == 9248) = true := hb
    rw [if_pos hb', and_eq hb'] at hQ
    dsimp only at hQ
    refine sd_last x rfl hm hw dZ0_is ⟨?_, ?_, rfl⟩ h2 hR2 ?_
    all_goals
      unfold dZ0
      simp only [DS.run, Cd.B]
      try rw [show ((x.d1.1 : Int) == 8219) = (((endD false (cutD false S)).1 : Int) == 8219) from rfl]
      cases hq : ((endD false (cutD false S)).1 : Int) == 8219
      all_goals first | rfl | (rw [hq] at hQ; exact hQ)
  have hb0 : ¬ (hasB m 2097152 && ((endD false S).1 : Int) == 9248) = true := by rw [show (hasB m 2097152 && ((endD false S).1 : Int) == 9248) = false from hb]; decide
  rw [if_neg hb0] at hQ
  clear hb0 hb
  rw [lC1_is]
  refine sd_cond x rfl hm hw dC1_is (dC1_run x) h2 hR2 (fun hb a3 w3 h3 hR3 => ?_) (fun hb a3 w3 h3 hR3 => ?_)
  · have hb' : (hasB m 4194304 && ((endD false S).1 : Int) == 65294) = true := hb
    rw [if_pos hb', and_eq hb'] at hQ
    dsimp only at hQ
    refine sd_last x rfl hm hw dZ1_is ⟨?_, ?_, rfl⟩ h3 hR3 ?_
    all_goals
      unfold dZ1
      simp only [DS.run, Cd.B]
      try rw [show ((x.d1.1 : Int) == 8219) = (((endD false (cutD false S)).1 : Int) == 8219) from rfl]
      cases hq : ((endD false (cutD false S)).1 : Int) == 8219
      all_goals first | rfl | (rw [hq] at hQ; exact hQ)
  have hb0 : ¬ (hasB m 4194304 && ((endD false S).1 : Int) == 65294) = true := by rw [show (hasB m 4194304 && ((endD false S).1 : Int) == 65294) = false from hb]; decide
  rw [if_neg hb0] at hQ
  clear hb0 hb
  rw [lC2_is]
  refine sd_cond x rfl hm hw dC2_is (dC2_run x) h3 hR3 (fun hb a4 w4 h4 hR4 => ?_) (fun hb a4 w4 h4 hR4 => ?_)
  · have hb' : (hasB m 8388608 && (((endD false S).1 : Int) == 9225 || ((endD false S).1 : Int) == 9226 || ((endD false S).1 : Int) == 9227 || ((endD false S).1 : Int) == 9229)) = true := hb
    rw [if_pos hb'] at hQ
    dsimp only at hQ
    refine sd_last x rfl hm hw dZ2_is ⟨?_, ?_, rfl⟩ h4 hR4 ?_
    all_goals
      unfold dZ2
      simp only [DS.run, Cd.B]
      try rw [show ((x.d1.1 : Int) == 8219) = (((endD false (cutD false S)).1 : Int) == 8219) from rfl]
      cases hq : ((endD false (cutD false S)).1 : Int) == 8219
      all_goals first | rfl | (rw [hq] at hQ; exact hQ)
  have hb0 : ¬ (hasB m 8388608 && (((endD false S).1 : Int) == 9225 || ((endD false S).1 : Int) == 9226 || ((endD false S).1 : Int) == 9227 || ((endD false S).1 : Int) == 9229)) = true := by
    rw [show (hasB m 8388608 && (((endD false S).1 : Int) == 9225 || ((endD false S).1 : Int) == 9226 || ((endD false S).1 : Int) == 9227 || ((endD false S).1 : Int) == 9229)) = false from hb]; decide
  rw [if_neg hb0] at hQ
  refine wp_skip ?_
  exact hQ a4 w4 (st_sub h4 (by simp [x])) hR4
end Go.Proofs.YtonmnpmklkbioaaDoor.Sy
/- The walk of Decode's statements 1 to 8. -/
namespace Go.Proofs.YtonmnpmklkbioaaDoor.Sy
open Go.RowKit Go.Proofs.YtonmnpmklkbioaaDoorW.PrintWords
set_option linter.unusedVariables false
set_option linter.unusedSimpArgs false
theorem s5_step {c rest : Code} {d : DS As Unit} {env : Env As} {ks : List Nat} {l : List (Nat × Value)} (x : Cs) (hl : x.left = true) (hx : OkS x) {w0 : World} (hw : WorldOk w0 x.mp x.m)
    (his : (comp0 (rulesS true 553) c env).map (fun D => norm (fun _ => none) (strip1 ks D)) = some d) (hrun : (d.run x.B).x = .normal ∧ (d.run x.B).tr = [] ∧ vals x.V ks (d.run x.B).es = l) {a : Act} {w : World} {Q : Exit → Act → World → Prop}
    (hA : St 553 (env.map fun p => (p.1, p.2.val x.V)) a) (hR : Below w0.heap.size w0 w) (hQ : ∀ a' w', St 553 l a' → Below w0.heap.size w0 w' → rest.wp Tryd.prog Q a' w') : (Code.seq c rest).wp Tryd.prog Q a w := by
  have hs := soundS 553 x hx w0 hw
  rw [hl] at hs
  refine wp_seq (tree_st hs his hA hR (by rw [hrun.1]; intro h; cases h) (fun a' w' h1 h2 => ?_))
  rw [hrun.1]
  rw [hrun.2.2] at h1
  exact hQ a' w' h1 h2
theorem s5_last {c : Code} {d : DS As Unit} {env : Env As} {ks : List Nat} {l : List (Nat × Value)} (x : Cs) (hl : x.left = true) (hx : OkS x) {w0 : World} (hw : WorldOk w0 x.mp x.m)
    (his : (comp0 (rulesS true 553) c env).map (fun D => norm (fun _ => none) (strip1 ks D)) = some d) (hrun : (d.run x.B).x = .normal ∧ (d.run x.B).tr = [] ∧ vals x.V ks (d.run x.B).es = l) {a : Act} {w : World} {Q : Exit → Act → World → Prop}
    (hA : St 553 (env.map fun p => (p.1, p.2.val x.V)) a) (hR : Below w0.heap.size w0 w) (hQ : ∀ a' w', St 553 l a' → Below w0.heap.size w0 w' → Q .normal a' w') : c.wp Tryd.prog Q a w := by
  have hs := soundS 553 x hx w0 hw
  rw [hl] at hs
  refine tree_st hs his hA hR (by rw [hrun.1]; intro h; cases h) (fun a' w' h1 h2 => ?_)
  rw [hrun.1]
  rw [hrun.2.2] at h1
  exact hQ a' w' h1 h2
def undotO (m : Int) (S : ByteArray) : Option ByteArray :=
  bif hasB m 33554432 then
    bif S.toList == [239, 188, 142] then some (strB [46])
    else bif S.toList == [239, 188, 142, 239, 188, 142] then some (strB [46, 46])
    else bif S.toList == [226, 128, 155, 239, 188, 142] then some (strB [239, 188, 142])
    else bif S.toList == [226, 128, 155, 239, 188, 142, 226, 128, 155, 239, 188, 142] then some (strB [239, 188, 142, 239, 188, 142])
    else none
  else none
def dendsO (m : Int) (S : ByteArray) : Fr :=
  .go (drightO m (dleftO m S).1).1 (dleftO m S).2 (drightO m (dleftO m S).1).2
    (bif (dleftO m S).2.toList == [] && (drightO m (dleftO m S).1).2.toList == [] then Lib.idxFunc (hitG 68 m) true (drightO m (dleftO m S).1).1 else 0)
def dfrontO (m : Int) (S : ByteArray) : Fr :=
  bif m == 1 then .done S else
  match undotO m S with
  | some t => .done t
  | none => dendsO m S
theorem runeB_le (r : Int) : (runeB r).size ≤ 7 := by
  have := rune_le r
  rw [size_strB]; omega
theorem dleftO_le (m : Int) (S : ByteArray) : (dleftO m S).1.size ≤ S.size ∧ (dleftO m S).2.size ≤ 7 := by
  have h1 := cutD_le true S
  have h2 := cutD_le true (cutD true S)
  unfold dleftO
  split
  · exact ⟨h1, runeB_le _⟩
  · split
    · split
      · exact ⟨Nat.le_trans h2 h1, runeB_le _⟩
      · exact ⟨Nat.le_refl _, Nat.zero_le _⟩
    · exact ⟨Nat.le_refl _, Nat.zero_le _⟩
theorem drightO_le (m : Int) (S : ByteArray) : (drightO m S).1.size ≤ S.size ∧ (drightO m S).2.size ≤ 7 := by
  have h1 := cutD_le false S
  have h2 := cutD_le false (cutD false S)
  unfold drightO
  split
  · split
    · exact ⟨Nat.le_trans h2 h1, runeB_le _⟩
    · exact ⟨h1, runeB_le _⟩
  · exact ⟨Nat.le_refl _, Nat.zero_le _⟩
theorem dmid_wp {mp : Addr} {m : Int} {K P U : ByteArray} {w0 : World} (hw : WorldOk w0 mp m) {rest : Code} {Q : Exit → Act → World → Prop} {a : Act} {w : World}
    (hA : St 553 [(1, .string K), (2, .pointer (some mp)), (5, .string P), (10, .string U)] a) (hR : Below w0.heap.size w0 w)
    (hQ : ∀ a' w', St 553 [(1, .string K), (2, .pointer (some mp)), (5, .string P), (10, .string U), (19, .int .i64 (bif P.toList == [] && U.toList == [] then Lib.idxFunc (hitG 68 m) true K else 0))] a' → Below w0.heap.size w0 w' → rest.wp Tryd.prog Q a' w') :
    (Code.seq (e44 7) (.seq (e44 8) rest)).wp Tryd.prog Q a w := by
  have ok : OkS ⟨mp, m, one, true, one, K, P, U⟩ := ⟨one_pos, one_le, one_ne⟩
  have e8 : e44 8 = .seq (nth (sp (e44 8)) 0) (.cond (.tmp 267) (thn (e44 8)) .skip) := by kernel_rfl
  refine s5_step ⟨mp, m, one, true, one, K, P, U⟩ rfl ok hw (d := k7) (l := [(1, .string K), (2, .pointer (some mp)), (5, .string P), (10, .string U), (19, .int .i64 0)]) k7_is ⟨rfl, rfl, rfl⟩ hA hR (fun a2 w2 h2 hR2 => ?_)
  rw [e8]
  refine wp_seq ?_
  have hrun : (k8a.run (Cs.B ⟨mp, m, one, true, one, K, P, U⟩)).x = .normal ∧ (k8a.run (Cs.B ⟨mp, m, one, true, one, K, P, U⟩)).tr = [] ∧ vals (Cs.V ⟨mp, m, one, true, one, K, P, U⟩) [1, 2, 5, 10, 19, 267] (k8a.run (Cs.B ⟨mp, m, one, true, one, K, P, U⟩)).es = [(1, .string K), (2, .pointer (some mp)), (5, .string P), (10, .string U), (19, .int .i64 0), (267, .bool (P.toList == [] && U.toList == []))] := by
    unfold k8a
    simp only [DS.run, Cs.B]
    cases P.toList == [] <;> exact ⟨rfl, rfl, rfl⟩
  refine s5_step ⟨mp, m, one, true, one, K, P, U⟩ rfl ok hw (d := k8a) k8a_is hrun h2 hR2 (fun a3 w3 h3 hR3 => ?_)
  cases hb : (P.toList == [] && U.toList == []) with
  | true =>
    rw [hb] at h3 hQ
    refine wp_cond_true (st_eval h3 (by simp)) ?_
    refine s5_last ⟨mp, m, one, true, one, K, P, U⟩ rfl ok hw (d := k8b) (l := [(1, .string K), (2, .pointer (some mp)), (5, .string P), (10, .string U), (19, .int .i64 (Lib.idxFunc (hitG 68 m) true K))]) k8b_is ⟨rfl, rfl, rfl⟩ (st_sub h3 (by simp [E.val, Cs.V])) hR3 (fun a4 w4 h4 hR4 => ?_)
    exact hQ a4 w4 h4 hR4
  | false =>
    rw [hb] at h3 hQ
    refine wp_cond_false (st_eval h3 (by simp)) ?_
    refine wp_skip ?_
    exact hQ a3 w3 (st_sub h3 (by simp)) hR3
theorem dfront_wp {mp : Addr} {m : Int} {S : ByteArray} (hm : S.size ≤ 140737488351232) {w0 : World} (hw : WorldOk w0 mp m) {rest : Code} {Q : Exit → Act → World → Prop} {a : Act} {w : World}
    (hA : St 553 [(1, .string S), (2, .pointer (some mp))] a) (hR : Below w0.heap.size w0 w)
    (hret : ∀ t, dfrontO m S = .done t → ∀ a' w', St 553 [(4, .string t)] a' → Below w0.heap.size w0 w' → Q .ret a' w')
    (hgo : ∀ K P U i, dfrontO m S = .go K P U i → ∀ a' w', St 553 [(1, .string K), (2, .pointer (some mp)), (5, .string P), (10, .string U), (19, .int .i64 i)] a' → Below w0.heap.size w0 w' → rest.wp Tryd.prog Q a' w') :
    (Code.seq (e44 1) (.seq (e44 2) (.seq (e44 3) (.seq (e44 4) (.seq (e44 5) (.seq (e44 6) (.seq (e44 7) (.seq (e44 8) rest)))))))).wp Tryd.prog Q a w := by
  unfold dfrontO at hret hgo
  let x : Cd := ⟨mp, m, S, true, noB⟩
  have h1r : (d1.run x.B) = (bif m == 1 then ⟨.ret, [some (.atom .s0), some (.atom .mptr), some (.atom .s0)], []⟩ else ⟨.normal, [some (.atom .s0), some (.atom .mptr), none], []⟩) := by
    unfold d1
    simp only [DS.run, Cd.B, x]
  refine wp_seq ?_
  refine tree_st (soundD 553 x hm w0 hw) d1_is hA hR (by rw [h1r]; cases m == 1 <;> exact (fun h => by cases h)) (fun a1 w1 h1 hR1 => ?_)
  rw [h1r] at h1 ⊢
  cases hm1 : m == 1 with
  | true =>
    rw [hm1] at h1 hret
    exact hret S rfl a1 w1 (st_sub h1 (by simp [vals, E.val, Cd.V, x])) hR1
  | false =>
    rw [hm1] at h1 hret hgo
    simp only [cond_false] at hret hgo
    have h2r : (d2.run x.B) = (match undotO m S with
        | some t => ⟨.ret, [some (.atom .s0), some (.atom .mptr), some (.lit (.string t))], []⟩
        | none => ⟨.normal, [some (.atom .s0), some (.atom .mptr), none], []⟩) := by
      unfold d2 undotO
      simp only [DS.run, Cd.B, x]
      cases hasB m 33554432 with
      | false => rfl
      | true =>
        simp only [cond_true]
        cases S.toList == [239, 188, 142] with
        | true => rfl
        | false =>
          simp only [cond_false]
          cases S.toList == [239, 188, 142, 239, 188, 142] with
          | true => rfl
          | false =>
            simp only [cond_false]
            cases S.toList == [226, 128, 155, 239, 188, 142] with
            | true => rfl
            | false =>
              simp only [cond_false]
              cases S.toList == [226, 128, 155, 239, 188, 142, 226, 128, 155, 239, 188, 142] with
              | true => rfl
              | false => rfl
    refine wp_seq ?_
    refine tree_st (soundD 553 x hm w0 hw) d2_is (a := a1) (w := w1) (st_sub h1 (by simp [vals, E.val, Cd.V, x])) hR1 (by rw [h2r]; cases undotO m S <;> exact (fun h => by cases h)) (fun a2 w2 h2 hR2 => ?_)
    rw [h2r] at h2 ⊢
    cases hd : undotO m S with
    | some t =>
      rw [hd] at h2 hret
      exact hret t rfl a2 w2 (st_sub h2 (by simp [vals, E.val, Cd.V])) hR2
    | none =>
      rw [hd] at h2 hret hgo
      refine sd_step x rfl hm hw d3_is (l := [(1, .string S), (2, .pointer (some mp)), (5, .string noB)]) ⟨rfl, rfl, rfl⟩ (st_sub h2 (by simp [vals, E.val, Cd.V, x])) hR2 (fun a3 w3 h3 hR3 => ?_)
      refine wp_seq (dleft_wp hm hw h3 hR3 (fun a4 w4 h4 hR4 => ?_))
      have hl := dleftO_le m S
      refine sd_step ⟨mp, m, (dleftO m S).1, false, (dleftO m S).2⟩ rfl (show (dleftO m S).1.size ≤ _ by omega) hw d5_is (l := [(1, .string (dleftO m S).1), (2, .pointer (some mp)), (5, .string (dleftO m S).2), (10, .string noB)]) ⟨rfl, rfl, rfl⟩ h4 hR4 (fun a5 w5 h5 hR5 => ?_)
      refine wp_seq (dright_wp (by omega) hw h5 hR5 (fun a6 w6 h6 hR6 => ?_))
      refine dmid_wp hw h6 hR6 (fun a7 w7 h7 hR7 => ?_)
      exact hgo _ _ _ _ rfl a7 w7 h7 hR7
end Go.Proofs.YtonmnpmklkbioaaDoor.Sy
