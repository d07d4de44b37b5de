/- 5 texts of this claim, one behind the other. -/
import Derived.Test.YtonmnpmklkbioaaDoorGb
/- The alphabet of the walks over a string's one end (names), and that its rules are sound. -/
namespace Go.Proofs.YtonmnpmklkbioaaDoor.Sy
open Go.RowKit Go.Proofs.YtonmnpmklkbioaaDoorW.PrintWords
set_option linter.unusedVariables false
set_option linter.unusedSimpArgs false
inductive As where
  | mptr | mask
  | meq (c : Int)
  | has (b : Int)
  | s | byt
  | bcmp (c : Int)
  | dtup | drune | dwid
  | rcmp (c : Int)
  | scut | dcut | len | lenm | lenw
  | pfx | kept | pre | suf
  | pe | se | nk
  | clo (g : Nat)
  | idx (g : Nat)
  | seq (l : List UInt8)
  | c32 | c32a | cstr | rstr | qrstr
  deriving DecidableEq
/-- What the letters stand for: the string, which end of it, what stands ahead. -/
structure Cs where
  mp : Addr
  m : Int
  S : ByteArray
  left : Bool
  P : ByteArray
  K : ByteArray
  P0 : ByteArray
  T : ByteArray
def Cs.b (x : Cs) : Int := if x.left then bt x.S 0 else bt x.S ((x.S.size : Int) - 1)
def Cs.d (x : Cs) : Nat × Nat := if x.left then Lib.decodeGo x.S else Lib.decodeLastL x.S.data.toList
def Cs.sc (x : Cs) : ByteArray := if x.left then x.S.extract 1 x.S.size else x.S.extract 0 (x.S.size - 1)
def Cs.dc (x : Cs) : ByteArray := if x.left then x.S.extract x.d.2 x.S.size else x.S.extract 0 (x.S.size - x.d.2)
def strB (l : List UInt8) : ByteArray := ⟨l.toArray⟩
def quoteL : List UInt8 := [226, 128, 155]
def hitG (g : Nat) (m : Int) (r : Nat) : Bool := bif Nat.beq g 60 then hit60 m r else hit68 m r
def Cs.B (x : Cs) : As → Bool
  | .has b => hasB x.m b
  | .meq c => x.m == c
  | .bcmp c => x.b == c
  | .rcmp c => (x.d.1 : Int) == c
  | .seq l => x.S.toList == l
  | .pe => x.P0.toList == []
  | .se => x.T.toList == []
  | .nk => !(x.K.toList == [])
  | _ => false
def Cs.V (x : Cs) : As → Value
  | .mptr => .pointer (some x.mp)
  | .mask => .int .u64 x.m
  | .meq c => .bool (x.m == c)
  | .has b => .bool (hasB x.m b)
  | .s => .string x.S
  | .byt => .int .u8 x.b
  | .bcmp c => .bool (x.b == c)
  | .dtup => .tuple #[.int .i32 (x.d.1 : Int), .int .i64 (x.d.2 : Int)]
  | .drune => .int .i32 (x.d.1 : Int)
  | .dwid => .int .i64 (x.d.2 : Int)
  | .rcmp c => .bool ((x.d.1 : Int) == c)
  | .scut => .string x.sc
  | .dcut => .string x.dc
  | .len => .int .i64 (x.S.size : Int)
  | .lenm => .int .i64 ((x.S.size - 1 : Nat) : Int)
  | .lenw => .int .i64 ((x.S.size - x.d.2 : Nat) : Int)
  | .pfx => .string x.P
  | .kept => .string x.K
  | .pre => .string x.P0
  | .suf => .string x.T
  | .pe => .bool (x.P0.toList == [])
  | .se => .bool (x.T.toList == [])
  | .nk => .bool (!(x.K.toList == []))
  | .clo g => .func (.func g) #[] #[.pointer (some x.mp)]
  | .idx g => .int .i64 (Lib.idxFunc (hitG g x.m) true x.K)
  | .seq l => .bool (x.S.toList == l)
  | .c32 => .int .i32 x.b
  | .c32a => .int .i32 (9216 + x.b)
  | .cstr => .string (strB (Lib.encodeRune (9216 + x.b)))
  | .rstr => .string (strB (Lib.encodeRune (x.d.1 : Int)))
  | .qrstr => .string (strB (quoteL ++ Lib.encodeRune (x.d.1 : Int)))
def isBS : As → Bool
  | .has _ => true
  | .meq _ => true
  | .bcmp _ => true
  | .rcmp _ => true
  | .seq _ => true
  | .pe => true
  | .se => true
  | .nk => true
  | _ => false
abbrev T1 := Option (E As)
def pSlice (left : Bool) (lo hi mx : Option Operand) (es : List (E As)) : T1 :=
  match lo, hi, mx with
  | some _, none, none => (match es with
    | [.atom .s, .lit (.int .i64 1)] => bif left then some (.atom .scut) else none
    | [.atom .s, .atom .dwid] => bif left then some (.atom .dcut) else none
    | _ => none)
  | none, some _, none => (match es with
    | [.atom .s, .atom .lenm] => bif left then none else some (.atom .scut)
    | [.atom .s, .atom .lenw] => bif left then none else some (.atom .dcut)
    | _ => none)
  | _, _, _ => none
def pIndex (left : Bool) : List (E As) → T1
  | [.atom .s, .lit (.int .i64 0)] => bif left then some (.atom .byt) else none
  | [.atom .s, .atom .lenm] => bif left then none else some (.atom .byt)
  | _ => none
def pEqS : List (E As) → T1
  | [.atom .s, .lit (.string t)] => some (.atom (.seq t.data.toList))
  | [.lit (.string s), .lit (.string t)] => some (.lit (.bool (s.data.toList == t.data.toList)))
  | [.atom .pfx, .lit (.string t)] => match t.data.toList with
    | [] => some (.lit (.bool false))
    | _ => none
  | [.atom .pre, .lit (.string t)] => match t.data.toList with
    | [] => some (.atom .pe)
    | _ => none
  | [.atom .suf, .lit (.string t)] => match t.data.toList with
    | [] => some (.atom .se)
    | _ => none
  | _ => none
def pBin (op : BinOp) (t t2 : Nat) (es : List (E As)) : T1 :=
  bif Nat.beq t t2 then (match op with
  | .eql => bif Nat.beq t 9 then pEqS es else bif Nat.beq t 5 then (match es with
      | [.atom .byt, .lit (.int .u8 c)] => some (.atom (.bcmp c))
      | _ => none) else bif Nat.beq t 21 then (match es with
      | [.atom .drune, .lit (.int .i32 c)] => some (.atom (.rcmp c))
      | _ => none) else bif Nat.beq t 43 then (match es with
      | [.atom .mask, .lit (.int .u64 c)] => some (.atom (.meq c))
      | _ => none) else none
  | .neq => bif Nat.beq t 9 then (match es with
      | [.atom .kept, .lit (.string t)] => (match t.data.toList with
        | [] => some (.atom .nk)
        | _ => none)
      | _ => none) else none
  | .sub => bif Nat.beq t 3 then (match es with
      | [.atom .len, .lit (.int .i64 1)] => some (.atom .lenm)
      | [.atom .len, .atom .dwid] => some (.atom .lenw)
      | _ => none) else none
  | .add => bif Nat.beq t 21 then (match es with
      | [.lit (.int .i32 9216), .atom .c32] => some (.atom .c32a)
      | _ => none) else bif Nat.beq t 9 then (match es with
      | [.lit (.string q), .atom .rstr] => bif q.data.toList == quoteL then some (.atom .qrstr) else none
      | _ => none) else none
  | _ => none) else none
def pConv (s d : Nat) (es : List (E As)) : T1 :=
  bif Nat.beq s 5 && Nat.beq d 21 then (match es with
    | [.atom .byt] => some (.atom .c32)
    | _ => none) else bif Nat.beq s 21 && Nat.beq d 9 then (match es with
    | [.atom .c32a] => some (.atom .cstr)
    | [.atom .drune] => some (.atom .rstr)
    | _ => none) else none
def pExtract (i : Nat) : List (E As) → T1
  | [.atom .dtup] => bif Nat.beq i 0 then some (.atom .drune) else bif Nat.beq i 1 then some (.atom .dwid) else none
  | _ => none
def pLen (ats : Array TypeId) : List (E As) → T1
  | [.atom .s] => match ats.toList with
    | [t] => bif Nat.beq t 9 then some (.atom .len) else none
    | _ => none
  | _ => none
def pureS (left : Bool) (o : Op) (es : List (E As)) : T1 :=
  match o with
  | .load t _ => bif Nat.beq t 43 then (match es with
    | [.atom .mptr] => some (.atom .mask)
    | _ => none) else none
  | .index t _ _ => bif Nat.beq t 9 then pIndex left es else none
  | .slice t _ lo hi mx => bif Nat.beq t 9 then pSlice left lo hi mx es else none
  | .binOp op t _ _ t2 => pBin op t t2 es
  | .convert s d _ => pConv s d es
  | .extract _ i => pExtract i es
  | .makeFunc (.func g) first _ => bif first.toList.isEmpty && (Nat.beq g 60 || Nat.beq g 68) then (match es with
    | [.atom .mptr] => some (.atom (.clo g))
    | _ => none) else none
  | .call c => match c.callee with
    | .builtin .len => pLen c.argTypes es
    | _ => none
  | _ => none
def callS (left : Bool) (o : Op) (es : List (E As)) : T1 :=
  match o with
  | .call c => match c.callee with
    | .value (.func f) => (match es with
      | [.atom .mask, .lit (.int .u64 b)] => bif Nat.beq f 56 then some (.atom (.has b)) else none
      | [.atom .kept, .atom (.clo g)] => bif Nat.beq f 59 && (Nat.beq g 60 || Nat.beq g 68) then some (.atom (.idx g)) else none
      | [.atom .s] => bif left then (bif Nat.beq f 57 then some (.atom .dtup) else none) else (bif Nat.beq f 58 then some (.atom .dtup) else none)
      | _ => none)
    | _ => none
  | _ => none
def rulesS (left : Bool) (n : Nat) : Rules As Unit :=
  ⟨fun o es => match pureS left o es with
    | some e => some (e, [])
    | none => match callS left o es with
      | some e => some (e, [])
      | none => none, pureS left, isBS, n, fun _ _ => true⟩
/-- What a string must be for the rules. -/
structure OkS (x : Cs) : Prop where
  pos : 0 < x.S.size
  max : x.S.size ≤ 140737488351232
  pre : x.P.size ≠ 0
theorem tl_eq (s : ByteArray) : s.toList = s.data.toList := ByteArray.toList_eq s
theorem d_le (x : Cs) (hx : OkS x) : x.d.2 ≤ x.S.size := by
  unfold Cs.d
  split
  · exact Lib.decodeGo_le_size x.S
  · have hp := hx.pos
    have hl : x.S.data.toList.length = x.S.size := Array.length_toList
    unfold Lib.decodeLastL
    split
    · exact Nat.zero_le _
    · split
      · exact hp
      · simp only
        split
        · rename_i h; rw [← hl]; omega
        · exact hp
theorem b_of (x : Cs) (hx : OkS x) : 0 ≤ x.b ∧ x.b ≤ 255 := by
  unfold Cs.b
  split
  · exact bt_range _ _
  · exact bt_range _ _
theorem bt_at (s : ByteArray) (i : Nat) (h : i < s.size) : bt s (i : Int) = (s[i].toNat : Int) := by
  unfold bt; simp [h]
theorem i32_id {x : Int} (h0 : 0 ≤ x) (h1 : x ≤ 1000000000) : IntKind.i32.wrap x = x := by
  unfold IntKind.wrap; simp [IntKind.bits, IntKind.signed]; omega
theorem i64_id {x : Int} (h0 : 0 ≤ x) (h1 : x ≤ 4611686018427387904) : IntKind.i64.wrap x = x := (IntWalk.i64_left x).trans (by unfold wrap64; omega)
set_option maxHeartbeats 4000000 in
set_option maxRecDepth 100000 in
theorem pureS_run (x : Cs) (hx : OkS x) {w : World} (hm : w.cell? x.mp = some (.int .u64 x.m)) (o : Oper) {es : List (E As)} {e : E As} {xs : List Operand} (h : pureS x.left o.op es = some e) (hxs : opnds o.op = some xs) (a : Act) (he : xs.map a.eval = es.map (E.val x.V)) :
    (execOp a.eval o).run Tryd.prog w = .ok (.value (e.val x.V)) w := by
  have hp := hx.pos
  have hmx := hx.max
  have hd := d_le x hx
  have hb := b_of x hx
  obtain ⟨dst, op, ty, pos, af, gd⟩ := o
  simp only at h hxs
  have lw1 : IntKind.i64.wrap ((x.S.size : Int) - 1) = ((x.S.size - 1 : Nat) : Int) := by rw [i64_id (by omega) (by omega)]; omega
  have lw2 : IntKind.i64.wrap ((x.S.size : Int) - (x.d.2 : Int)) = ((x.S.size - x.d.2 : Nat) : Int) := by rw [i64_id (by omega) (by omega)]; omega
  cases op with
  | load t y =>
    simp only [pureS] at h
    cases ht : Nat.beq t 43 with
    | false => rw [ht] at h; cases h
    | true =>
      obtain rfl := beq_t ht
      rw [ht] at h
      simp only [cond_true] at h
      split at h
      · cases h; cases hxs
        simp only [List.map_cons, List.map_nil, List.cons.injEq, and_true] at he
        exact r_load he hm
      · cases h
  | index t y z =>
    simp only [pureS] at h
    cases ht : Nat.beq t 9 with
    | false => rw [ht] at h; cases h
    | true =>
      obtain rfl := beq_t ht
      rw [ht] at h
      simp only [cond_true] at h
      cases hxs
      unfold pIndex at h
      split at h
      · simp only [List.map_cons, List.map_nil, List.cons.injEq, and_true] at he
        cases hl : x.left with
        | false => rw [hl] at h; cases h
        | true =>
          rw [hl] at h; cases h
          have := r_index (w := w) (dst := dst) (ty := ty) (pos := pos) (af := af) (gd := gd) (i := 0) he.1 he.2 hp
          rw [this]
          simp only [E.val, Cs.V, Cs.b, hl, if_true]
          rw [show (0 : Int) = ((0 : Nat) : Int) from rfl, bt_at x.S 0 hp]
      · simp only [List.map_cons, List.map_nil, List.cons.injEq, and_true] at he
        cases hl : x.left with
        | true => rw [hl] at h; cases h
        | false =>
          rw [hl] at h; cases h
          have := r_index (w := w) (dst := dst) (ty := ty) (pos := pos) (af := af) (gd := gd) (i := x.S.size - 1) he.1 he.2 (by omega)
          rw [this]
          simp only [E.val, Cs.V, Cs.b, hl, Bool.false_eq_true, if_false]
          rw [show (x.S.size : Int) - 1 = ((x.S.size - 1 : Nat) : Int) by omega, bt_at x.S (x.S.size - 1) (by omega)]
      · cases h
  | slice t y lo hi mx =>
    simp only [pureS] at h
    cases ht : Nat.beq t 9 with
    | false => rw [ht] at h; cases h
    | true =>
      obtain rfl := beq_t ht
      rw [ht] at h
      simp only [cond_true] at h
      simp only [opnds, Option.some.injEq] at hxs
      subst hxs
      unfold pSlice at h
      split at h
      · simp only [optL, List.append_nil, List.cons_append, List.nil_append] at he
        split at h
        · simp only [List.map_cons, List.map_nil, List.cons.injEq, and_true] at he
          cases hl : x.left with
          | false => rw [hl] at h; cases h
          | true =>
            rw [hl] at h; cases h
            rw [r_slice_lo (i := 1) he.1 he.2 hp]
            simp only [E.val, Cs.V, Cs.sc, hl, if_true]
        · simp only [List.map_cons, List.map_nil, List.cons.injEq, and_true] at he
          cases hl : x.left with
          | false => rw [hl] at h; cases h
          | true =>
            rw [hl] at h; cases h
            rw [r_slice_lo (i := x.d.2) he.1 he.2 hd]
            simp only [E.val, Cs.V, Cs.dc, hl, if_true]
        · cases h
      · simp only [optL, List.append_nil, List.cons_append, List.nil_append] at he
        split at h
        · simp only [List.map_cons, List.map_nil, List.cons.injEq, and_true] at he
          cases hl : x.left with
          | true => rw [hl] at h; cases h
          | false =>
            rw [hl] at h; cases h
            rw [r_slice_hi (i := x.S.size - 1) he.1 he.2 (by omega)]
            simp only [E.val, Cs.V, Cs.sc, hl, Bool.false_eq_true, if_false]
        · simp only [List.map_cons, List.map_nil, List.cons.injEq, and_true] at he
          cases hl : x.left with
          | true => rw [hl] at h; cases h
          | false =>
            rw [hl] at h; cases h
            rw [r_slice_hi (i := x.S.size - x.d.2) he.1 he.2 (by omega)]
            simp only [E.val, Cs.V, Cs.dc, hl, Bool.false_eq_true, if_false]
        · cases h
      · cases h
  | convert s d y =>
    simp only [pureS, pConv] at h
    cases hxs
    cases ht : Nat.beq s 5 && Nat.beq d 21 with
    | true =>
      rw [ht] at h
      simp only [Bool.and_eq_true] at ht
      obtain rfl := beq_t ht.1
      obtain rfl := beq_t ht.2
      simp only [cond_true] at h
      split at h
      · cases h
        simp only [List.map_cons, List.map_nil, List.cons.injEq, and_true] at he
        exact r_conv832 he hb.1 hb.2
      · cases h
    | false =>
      rw [ht] at h
      simp only [cond_false] at h
      cases ht2 : Nat.beq s 21 && Nat.beq d 9 with
      | false => rw [ht2] at h; cases h
      | true =>
        rw [ht2] at h
        simp only [Bool.and_eq_true] at ht2
        obtain rfl := beq_t ht2.1
        obtain rfl := beq_t ht2.2
        simp only [cond_true] at h
        split at h
        · cases h
          simp only [List.map_cons, List.map_nil, List.cons.injEq, and_true] at he
          exact r_convs he
        · cases h
          simp only [List.map_cons, List.map_nil, List.cons.injEq, and_true] at he
          exact r_convs he
        · cases h
  | extract y i =>
    simp only [pureS] at h
    cases hxs
    unfold pExtract at h
    split at h
    · simp only [List.map_cons, List.map_nil, List.cons.injEq, and_true] at he
      cases ht : Nat.beq i 0 with
      | true =>
        obtain rfl := beq_t ht
        rw [ht] at h; cases h
        exact r_extract he rfl
      | false =>
        rw [ht] at h
        simp only [cond_false] at h
        cases ht2 : Nat.beq i 1 with
        | true =>
          obtain rfl := beq_t ht2
          rw [ht2] at h; cases h
          exact r_extract he rfl
        | false => rw [ht2] at h; cases h
    · cases h
  | binOp op t y z t2 =>
    simp only [pureS, pBin] at h
    cases hxs
    cases htt : Nat.beq t t2 with
    | false => rw [htt] at h; cases h
    | true =>
      obtain rfl := beq_t htt
      rw [htt] at h
      simp only [cond_true] at h
      split at h
      · cases h9 : Nat.beq t 9 with
        | true =>
          obtain rfl := beq_t h9
          rw [h9] at h
          simp only [cond_true] at h
          unfold pEqS at h
          split at h
          · cases h
            simp only [List.map_cons, List.map_nil, List.cons.injEq, and_true] at he
            rw [r_eqls he.1 he.2]
            simp only [E.val, Cs.V]
            rw [tl_eq, tl_eq]
          · cases h
            simp only [List.map_cons, List.map_nil, List.cons.injEq, and_true] at he
            rw [r_eqls he.1 he.2]
            simp only [E.val, Cs.V]
            rw [tl_eq, tl_eq]
          · split at h
            · rename_i hnil
              cases h
              simp only [List.map_cons, List.map_nil, List.cons.injEq, and_true] at he
              rw [r_eqls he.1 he.2]
              simp only [E.val, Cs.V]
              rw [tl_eq, tl_eq, hnil]
              have hne : x.P.data.toList ≠ [] := by
                intro e
                have := hx.pre
                apply this
                show x.P.data.size = 0
                rw [← Array.length_toList, e]
                rfl
              have : (x.P.data.toList == ([] : List UInt8)) = false := by simpa using hne
              rw [this]
            · cases h
          · split at h
            · rename_i hnil
              cases h
              simp only [List.map_cons, List.map_nil, List.cons.injEq, and_true] at he
              rw [r_eqls he.1 he.2]
              simp only [E.val, Cs.V]
              rw [tl_eq, tl_eq, hnil]
            · cases h
          · split at h
            · rename_i hnil
              cases h
              simp only [List.map_cons, List.map_nil, List.cons.injEq, and_true] at he
              rw [r_eqls he.1 he.2]
              simp only [E.val, Cs.V]
              rw [tl_eq, tl_eq, hnil]
            · cases h
          · cases h
        | false =>
          rw [h9] at h
          simp only [cond_false] at h
          cases h5 : Nat.beq t 5 with
          | true =>
            obtain rfl := beq_t h5
            rw [h5] at h
            simp only [cond_true] at h
            split at h
            · cases h
              simp only [List.map_cons, List.map_nil, List.cons.injEq, and_true] at he
              exact r_eql8 he.1 he.2
            · cases h
          | false =>
            rw [h5] at h
            simp only [cond_false] at h
            cases h21 : Nat.beq t 21 with
            | true =>
              obtain rfl := beq_t h21
              rw [h21] at h
              simp only [cond_true] at h
              split at h
              · cases h
                simp only [List.map_cons, List.map_nil, List.cons.injEq, and_true] at he
                exact r_eql32 he.1 he.2
              · cases h
            | false =>
              rw [h21] at h
              simp only [cond_false] at h
              cases h43 : Nat.beq t 43 with
              | true =>
                obtain rfl := beq_t h43
                rw [h43] at h
                simp only [cond_true] at h
                split at h
                · cases h
                  simp only [List.map_cons, List.map_nil, List.cons.injEq, and_true] at he
                  exact r_eqlm he.1 he.2
                · cases h
              | false => rw [h43] at h; cases h
      · cases h9 : Nat.beq t 9 with
        | false => rw [h9] at h; cases h
        | true =>
          obtain rfl := beq_t h9
          rw [h9] at h
          simp only [cond_true] at h
          split at h
          · split at h
            · rename_i hnil
              cases h
              simp only [List.map_cons, List.map_nil, List.cons.injEq, and_true] at he
              rw [r_neqs he.1 he.2]
              simp only [E.val, Cs.V]
              rw [tl_eq, tl_eq, hnil]
            · cases h
          · cases h
      · cases h3 : Nat.beq t 3 with
        | false => rw [h3] at h; cases h
        | true =>
          obtain rfl := beq_t h3
          rw [h3] at h
          simp only [cond_true] at h
          split at h
          · cases h
            simp only [List.map_cons, List.map_nil, List.cons.injEq, and_true] at he
            rw [r_sub64 he.1 he.2, lw1]
            rfl
          · cases h
            simp only [List.map_cons, List.map_nil, List.cons.injEq, and_true] at he
            rw [r_sub64 he.1 he.2, lw2]
            rfl
          · cases h
      · cases h21 : Nat.beq t 21 with
        | true =>
          obtain rfl := beq_t h21
          rw [h21] at h
          simp only [cond_true] at h
          split at h
          · cases h
            simp only [List.map_cons, List.map_nil, List.cons.injEq, and_true] at he
            rw [r_add32 he.1 he.2, i32_id (by omega) (by omega)]
            rfl
          · cases h
        | false =>
          rw [h21] at h
          simp only [cond_false] at h
          cases h9 : Nat.beq t 9 with
          | false => rw [h9] at h; cases h
          | true =>
            obtain rfl := beq_t h9
            rw [h9] at h
            simp only [cond_true] at h
            split at h
            · rename_i q
              cases hq : q.data.toList == quoteL with
              | false => rw [hq] at h; cases h
              | true =>
                rw [hq] at h; cases h
                simp only [List.map_cons, List.map_nil, List.cons.injEq, and_true] at he
                have hq' : q.data.toList = quoteL := by simpa using hq
                have hqs : q.size = 3 := by
                  have : q.data.toList.length = 3 := by rw [hq']; rfl
                  rw [Array.length_toList] at this
                  exact this
                have hrs : (strB (Lib.encodeRune (x.d.1 : Int))).size ≤ 4 := by
                  have := (Lib.encodeRuneZ_length (x.d.1 : Int)).2
                  show (Lib.encodeRune (x.d.1 : Int)).toArray.size ≤ 4
                  rw [List.size_toArray]
                  unfold Lib.encodeRune
                  rw [List.length_map]
                  exact this
                rw [r_adds he.1 he.2 (by rw [hqs]; omega)]
                simp only [E.val, Cs.V]
                congr 3
                apply ByteArray.ext
                apply Array.toList_inj.1
                simp [strB, hq']
            · cases h
      · cases h
  | call c =>
    simp only [pureS] at h
    split at h
    · rename_i hcal
      simp only [opnds, Option.some.injEq] at hxs
      subst hxs
      unfold pLen at h
      split at h
      · split at h
        · rename_i t hats
          cases h9 : Nat.beq t 9 with
          | false => rw [h9] at h; cases h
          | true =>
            obtain rfl := beq_t h9
            rw [h9] at h; cases h
            obtain ⟨cal, args, ats⟩ := c
            obtain ⟨l⟩ := args
            obtain ⟨l2⟩ := ats
            simp only at hcal hats he
            subst hcal hats
            match l, he with
            | [u], he =>
              simp only [List.map_cons, List.map_nil, List.cons.injEq, and_true] at he
              exact r_len (ats := #[]) he hmx
            | [], he => simp at he
            | _ :: _ :: _, he => simp at he
        · cases h
      · cases h
    · cases h
  | makeFunc fn first cap =>
    cases fn with
    | func g =>
      simp only [pureS] at h
      cases ht : first.toList.isEmpty && (Nat.beq g 60 || Nat.beq g 68) with
      | false => rw [ht] at h; cases h
      | true =>
        rw [ht] at h
        simp only [Bool.and_eq_true] at ht
        simp only [cond_true] at h
        have hf : first = #[] := by
          have := ht.1
          simpa using this
        subst hf
        split at h
        · cases h
          simp only [opnds, Option.some.injEq] at hxs
          subst hxs
          obtain ⟨l⟩ := cap
          match l, he with
          | [u], he =>
            simp only [List.nil_append, List.map_cons, List.map_nil, List.cons.injEq, and_true] at he
            show (execOp a.eval ⟨dst, .makeFunc (.func g) #[] #[u], ty, pos, af, gd⟩).run Tryd.prog w = _
            have hl : (#[u] : Array Operand).map a.eval = #[.pointer (some x.mp)] := by
              rw [List.map_toArray]
              simp only [List.map_cons, List.map_nil, he]
              rfl
            have hl0 : (#[] : Array Operand).map a.eval = #[] := by simp
            unfold execOp
            dsimp only
            rw [hl, hl0]
            rfl
          | [], he => simp at he
          | _ :: _ :: _, he => simp at he
        · cases h
    | _ => simp [pureS] at h
  | _ => simp [pureS] at h
/-- A world behind what is made beside it. -/
def Rb (w0 : World) (_ : List Unit) (w : World) : Prop := Below w0.heap.size w0 w
/-- What the world at the beginning must bear: the mask's cell, the library's tables. -/
structure WorldOk (w0 : World) (mp : Addr) (m : Int) : Prop where
  mask : w0.cell? mp = some (.int .u64 m)
  tabs : Lib.Utf8Tabs (Laid.L_n197_ren.g 3) (Laid.L_n197_ren.g 4) w0
theorem WorldOk.below {w0 w : World} {mp : Addr} {m : Int} (h : WorldOk w0 mp m) (hb : Below w0.heap.size w0 w) : WorldOk w mp m :=
  ⟨(hb.cell (World.block_lt_of_cell? w0 _ h.mask)).trans h.mask, fun c hc => (hb.cell (World.block_lt_of_cell? w0 _ (h.tabs.1 c hc))).trans (h.tabs.1 c hc), fun i hi => ⟨(hb.cell (World.block_lt_of_cell? w0 _ (h.tabs.2 i hi).1)).trans (h.tabs.2 i hi).1, (hb.cell (World.block_lt_of_cell? w0 _ (h.tabs.2 i hi).2)).trans (h.tabs.2 i hi).2⟩⟩
theorem below_drewN {B : Nat} {w0 w : World} (h : Below B w0 w) : ∀ n, Below B w0 (w.drewN n)
  | 0 => h
  | n + 1 => (below_drewN h n).drew
theorem dec57 (s : ByteArray) (w : World) (hT : Lib.Utf8Tabs (Laid.L_n197_ren.g 3) (Laid.L_n197_ren.g 4) w) : Calls Tryd.prog 57 #[.string s] w fun e w' => e = .returned (.tuple #[.int .i32 ((Lib.decodeGo s).1 : Int), .int .i64 ((Lib.decodeGo s).2 : Int)]) ∧ Below w.heap.size w w' :=
  Any.utf8_DecodeRuneInString Laid.L_n197 s w hT
theorem dec58 (s : ByteArray) (w : World) (hs : s.size ≤ 9223372036854775807) (hT : Lib.Utf8Tabs (Laid.L_n197_ren.g 3) (Laid.L_n197_ren.g 4) w) : Calls Tryd.prog 58 #[.string s] w fun e w' => e = .returned (.tuple #[.int .i32 ((Lib.decodeLastL s.data.toList).1 : Int), .int .i64 ((Lib.decodeLastL s.data.toList).2 : Int)]) ∧ Below w.heap.size w w' :=
  Any.utf8_DecodeLastRuneInString Laid.L_n271 s w hs hT
section
variable {a : Act} {w : World} {next : Act → World → Prop} {Q : Exit → Act → World → Prop} {dst : Option Nat} {ty : TypeId} {pos : String} {af : Array Edge} {gd : Option (Nat × Bool)} {x y z : Operand} {ats : Array TypeId}
theorem s_dec57 {s : ByteArray} (hT : Lib.Utf8Tabs (Laid.L_n197_ren.g 3) (Laid.L_n197_ren.g 4) w) (h1 : a.eval x = .string s) (h : ∀ w', Below w.heap.size w w' → next (a.put dst (.tuple #[.int .i32 ((Lib.decodeGo s).1 : Int), .int .i64 ((Lib.decodeGo s).2 : Int)])) w') : Oper.wp Tryd.prog ⟨dst, .call { callee := .value (.func 57), args := #[x], argTypes := ats }, ty, pos, af, gd⟩ a w next Q := by
  have hc := dec57 s w hT
  unfold Oper.wp execOp
  dsimp only
  simp only [resolve, invoke, List.map_toArray, List.map_cons, List.map_nil, h1]
  go_simp
  go_at_call 57
  refine hc.mono ?_
  rintro e w' ⟨rfl, hd⟩
  exact h w' hd
theorem s_dec58 {s : ByteArray} (hs : s.size ≤ 9223372036854775807) (hT : Lib.Utf8Tabs (Laid.L_n197_ren.g 3) (Laid.L_n197_ren.g 4) w) (h1 : a.eval x = .string s) (h : ∀ w', Below w.heap.size w w' → next (a.put dst (.tuple #[.int .i32 ((Lib.decodeLastL s.data.toList).1 : Int), .int .i64 ((Lib.decodeLastL s.data.toList).2 : Int)])) w') : Oper.wp Tryd.prog ⟨dst, .call { callee := .value (.func 58), args := #[x], argTypes := ats }, ty, pos, af, gd⟩ a w next Q := by
  have hc := dec58 s w hs hT
  unfold Oper.wp execOp
  dsimp only
  simp only [resolve, invoke, List.map_toArray, List.map_cons, List.map_nil, h1]
  go_simp
  go_at_call 58
  refine hc.mono ?_
  rintro e w' ⟨rfl, hd⟩
  exact h w' hd
end
theorem below_self {w W : World} (h : Below w.heap.size w W) {p : Addr} {v : Value} (hv : w.cell? p = some v) : W.cell? p = some v := (h.cell (World.block_lt_of_cell? w _ hv)).trans hv
theorem grows_of {mp : Addr} {m : Int} {w : World} {g : Nat} (hg : g = 60 ∨ g = 68) (hm : w.cell? mp = some (.int .u64 m)) : PredGrows Tryd.prog g #[.pointer (some mp)] (hitG g m) w := by
  intro W x hx hb
  have hm' := below_self hb hm
  rcases hg with rfl | rfl
  · refine (calls60 mp m x W hm').mono ?_
    rintro e w' ⟨he, n, rfl⟩
    exact ⟨he, below_drewN (Below.refl _ _) n⟩
  · refine (calls68 mp m x W hm').mono ?_
    rintro e w' ⟨he, n, rfl⟩
    exact ⟨he, below_drewN (Below.refl _ _) n⟩
theorem enter60 (args : Array Value) (w : World) : (callFunc 60 args).run Tryd.prog w = .ok (.enter 60 args) w := by kernel_rfl
theorem enter68 (args : Array Value) (w : World) : (callFunc 68 args).run Tryd.prog w = .ok (.enter 68 args) w := by kernel_rfl
theorem idx59 {mp : Addr} {m : Int} {w : World} {g : Nat} (hg : g = 60 ∨ g = 68) (hm : w.cell? mp = some (.int .u64 m)) (s : ByteArray) :
    Calls Tryd.prog 59 #[.string s, .func (.func g) #[] #[.pointer (some mp)]] w fun e w' => e = .returned (.int .i64 (Lib.idxFunc (hitG g m) true s)) ∧ Below w.heap.size w w' :=
  Any.strings_IndexFunc_grows Laid.L_n15 g #[.pointer (some mp)] (by rcases hg with rfl | rfl; exact enter60; exact enter68) (hitG g m) s w (grows_of hg hm)
theorem s_idx59 {a : Act} {w : World} {next : Act → World → Prop} {Q : Exit → Act → World → Prop} {dst : Option Nat} {ty : TypeId} {pos : String} {af : Array Edge} {gd : Option (Nat × Bool)} {u v : Operand} {ats : Array TypeId} {mp : Addr} {m : Int} {g : Nat} {s : ByteArray} (hg : g = 60 ∨ g = 68) (hm : w.cell? mp = some (.int .u64 m))
    (h1 : a.eval u = .string s) (h2 : a.eval v = .func (.func g) #[] #[.pointer (some mp)]) (h : ∀ w', Below w.heap.size w w' → next (a.put dst (.int .i64 (Lib.idxFunc (hitG g m) true s))) w') : Oper.wp Tryd.prog ⟨dst, .call { callee := .value (.func 59), args := #[u, v], argTypes := ats }, ty, pos, af, gd⟩ a w next Q := by
  have hc := idx59 hg hm s
  unfold Oper.wp execOp
  dsimp only
  simp only [resolve, invoke, List.map_toArray, List.map_cons, List.map_nil, h1, h2]
  go_simp
  go_at_call 59
  refine hc.mono ?_
  rintro e w' ⟨rfl, hd⟩
  exact h w' hd
theorem args_one {c : Call} {a : Act} {p : Value} (h : c.args.toList.map a.eval = [p]) : ∃ u, c.args = #[u] ∧ a.eval u = p := by
  obtain ⟨cal, args, ats⟩ := c
  obtain ⟨l⟩ := args
  match l, h with
  | [u], h =>
    simp only [List.map_cons, List.map_nil, List.cons.injEq, and_true] at h
    exact ⟨u, rfl, h⟩
  | [], h => simp at h
  | _ :: _ :: _, h => simp at h
set_option maxHeartbeats 1000000 in
set_option maxRecDepth 100000 in
theorem soundS (n : Nat) (x : Cs) (hx : OkS x) (w0 : World) (hw : WorldOk w0 x.mp x.m) : Sound (rulesS x.left n) Tryd.prog x.V x.B (Rb w0) where
  isB := by
    intro t ht
    cases t <;> first | rfl | cases ht
  quiet := by
    intro o es e xs h hxs a w tr he hR
    have := pureS_run x hx (hw.below hR).mask o h hxs a he
    unfold Oper.quietAt
    rw [this]
    exact ⟨rfl, rfl⟩
  mixed := by kernel_rfl
  drew := fun tr w n h => below_drewN h n
  rule := by
    intro o es e f xs h hxs a w tr next Q _ he hR hn
    have h' : (match pureS x.left o.op es with
      | some e => some (e, ([] : List Unit))
      | none => match callS x.left o.op es with
        | some e => some (e, [])
        | none => none) = some (e, f) := h
    split at h'
    · rename_i e2 h2
      cases h'
      have := pureS_run x hx (hw.below hR).mask o h2 hxs a he
      unfold Oper.wp
      rw [this]
      exact hn w hR
    · split at h'
      · rename_i e2 h2
        cases h'
        obtain ⟨dst, op, ty, pos, af, gd⟩ := o
        simp only at h2 hxs hn
        cases op with
        | call c =>
          simp only [callS] at h2
          split at h2
          · rename_i fn hcal
            simp only [opnds, Option.some.injEq] at hxs
            subst hxs
            split at h2
            · rename_i b
              cases ht : Nat.beq fn 56 with
              | false => rw [ht] at h2; cases h2
              | true =>
                obtain rfl := beq_t ht
                rw [ht] at h2
                cases h2
                obtain ⟨u, v, hargs, h3, h4⟩ := args_two he
                obtain ⟨cal, args, ats⟩ := c
                simp only at hcal hargs
                subst hcal hargs
                refine s_has h3 h4 (fun w' hd => hn w' ?_)
                obtain ⟨k, rfl⟩ := hd
                exact below_drewN hR k
            · rename_i g _
              cases ht : Nat.beq fn 59 && (Nat.beq g 60 || Nat.beq g 68) with
              | false => rw [ht] at h2; cases h2
              | true =>
                rw [ht] at h2
                cases h2
                simp only [Bool.and_eq_true, Bool.or_eq_true] at ht
                obtain ⟨ht1, ht2⟩ := ht
                obtain rfl := beq_t ht1
                obtain ⟨u, v, hargs, h3, h4⟩ := args_two he
                obtain ⟨cal, args, ats⟩ := c
                simp only at hcal hargs
                subst hcal hargs
                exact s_idx59 (by rcases ht2 with h | h; exact .inl (beq_t h); exact .inr (beq_t h)) (hw.below hR).mask h3 h4 (fun w' hd => hn w' (Below.trans hR (hd.mono hR.size)))
            · cases hl : x.left with
              | true =>
                rw [hl] at h2
                simp only [cond_true] at h2
                cases ht : Nat.beq fn 57 with
                | false => rw [ht] at h2; cases h2
                | true =>
                  obtain rfl := beq_t ht
                  rw [ht] at h2
                  cases h2
                  obtain ⟨u, hargs, h3⟩ := args_one he
                  obtain ⟨cal, args, ats⟩ := c
                  simp only at hcal hargs
                  subst hcal hargs
                  refine s_dec57 (hw.below hR).tabs h3 (fun w' hd => ?_)
                  have := hn w' (Below.trans hR (hd.mono hR.size))
                  simp only [E.val, Cs.V, Cs.d, hl, if_true] at this
                  exact this
              | false =>
                rw [hl] at h2
                simp only [cond_false] at h2
                cases ht : Nat.beq fn 58 with
                | false => rw [ht] at h2; cases h2
                | true =>
                  obtain rfl := beq_t ht
                  rw [ht] at h2
                  cases h2
                  obtain ⟨u, hargs, h3⟩ := args_one he
                  obtain ⟨cal, args, ats⟩ := c
                  simp only at hcal hargs
                  subst hcal hargs
                  refine s_dec58 (by have := hx.max; omega) (hw.below hR).tabs h3 (fun w' hd => ?_)
                  have := hn w' (Below.trans hR (hd.mono hR.size))
                  simp only [E.val, Cs.V, Cs.d, hl, Bool.false_eq_true, if_false] at this
                  exact this
            · cases h2
          · cases h2
        | _ => simp [callS] at h2
      · cases h'
end Go.Proofs.YtonmnpmklkbioaaDoor.Sy
/- Encode's statements ahead of its loop, as trees (reckoned). -/
namespace Go.Proofs.YtonmnpmklkbioaaDoor.Sy
open Go.RowKit Go.Proofs.YtonmnpmklkbioaaDoorW.PrintWords
set_option linter.unusedVariables false
set_option linter.unusedSimpArgs false
def thn : Code → Code
  | .seq _ (.cond _ x _) => x
  | _ => .skip
def nth (l : List Code) (k : Nat) : Code := (l[k]?).getD .skip
noncomputable def c35 : Code := Tryd.f35.body.getD .skip
noncomputable def e35 (k : Nat) : Code := nth (sp c35) k
noncomputable def f35r (k : Nat) : Code := bif Nat.beq k 2 then seqs ((sp (thn (e35 10))).drop 2) else nth (sp (thn (e35 10))) k
def t1 : DS As Unit := (.br (.meq (1)) (.leaf ⟨.ret, [some (.atom .s), some (.atom .mptr), some (.atom .s)], []⟩) (.leaf ⟨.normal, [some (.atom .s), some (.atom .mptr), none], []⟩))
set_option maxRecDepth 1000000 in
theorem t1_is : (comp0 (rulesS true 602) (e35 1) [(1, .atom As.s), (2, .atom As.mptr)]).map (fun d => norm (fun _ => none) (strip1 [1, 2, 4] d)) = some t1 := by kernel_rfl
def t2 : DS As Unit := (.br (.seq []) (.leaf ⟨.ret, [some (.atom .s), some (.atom .mptr), some (.lit (.string (strB [])))], []⟩) (.leaf ⟨.normal, [some (.atom .s), some (.atom .mptr), none], []⟩))
set_option maxRecDepth 1000000 in
theorem t2_is : (comp0 (rulesS true 602) (e35 2) [(1, .atom As.s), (2, .atom As.mptr)]).map (fun d => norm (fun _ => none) (strip1 [1, 2, 4] d)) = some t2 := by kernel_rfl
def t3 : DS As Unit := (.br (.has (33554432)) (.br (.seq [46]) (.leaf ⟨.ret, [some (.atom .s), some (.atom .mptr), some (.lit (.string (strB [239, 188, 142])))], []⟩) (.br (.seq [46, 46]) (.leaf ⟨.ret, [some (.atom .s), some (.atom .mptr), some (.lit (.string (strB [239, 188, 142, 239, 188, 142])))], []⟩) (.br (.seq [239, 188, 142]) (.leaf ⟨.ret, [some (.atom .s), some (.atom .mptr), some (.lit (.string (strB [226, 128, 155, 239, 188, 142])))], []⟩) (.br (.seq [239, 188, 142, 239, 188, 142]) (.leaf ⟨.ret, [some (.atom .s), some (.atom .mptr), some (.lit (.string (strB [226, 128, 155, 239, 188, 142, 226, 128, 155, 239, 188, 142])))], []⟩) (.leaf ⟨.normal, [some (.atom .s), some (.atom .mptr), none], []⟩))))) (.leaf ⟨.normal, [some (.atom .s), some (.atom .mptr), none], []⟩))
set_option maxRecDepth 1000000 in
theorem t3_is : (comp0 (rulesS true 602) (e35 3) [(1, .atom As.s), (2, .atom As.mptr)]).map (fun d => norm (fun _ => none) (strip1 [1, 2, 4] d)) = some t3 := by kernel_rfl
def t4 : DS As Unit := (.leaf ⟨.normal, [some (.atom .s), some (.atom .mptr), some (.lit (.string (strB [])))], []⟩)
set_option maxRecDepth 1000000 in
theorem t4_is : (comp0 (rulesS true 602) (e35 4) [(1, .atom As.s), (2, .atom As.mptr)]).map (fun d => norm (fun _ => none) (strip1 [1, 2, 5] d)) = some t4 := by kernel_rfl
def t5 : DS As Unit := (.br (.has (131072)) (.br (.bcmp (32)) (.leaf ⟨.normal, [some (.atom .scut), some (.atom .mptr), some (.lit (.string (strB [226, 144, 160])))], []⟩) (.br (.rcmp (9248)) (.leaf ⟨.normal, [some (.atom .dcut), some (.atom .mptr), some (.lit (.string (strB [226, 128, 155, 226, 144, 160])))], []⟩) (.leaf ⟨.normal, [some (.atom .s), some (.atom .mptr), some (.lit (.string (strB [])))], []⟩))) (.leaf ⟨.normal, [some (.atom .s), some (.atom .mptr), some (.lit (.string (strB [])))], []⟩))
set_option maxRecDepth 1000000 in
theorem t5_is : (comp0 (rulesS true 602) (e35 5) [(1, .atom As.s), (2, .atom As.mptr), (5, (.lit (.string ⟨#[]⟩)))]).map (fun d => norm (fun _ => none) (strip1 [1, 2, 5] d)) = some t5 := by kernel_rfl
def t6 : DS As Unit := (.br (.has (262144)) (.br (.bcmp (46)) (.leaf ⟨.normal, [some (.atom .scut), some (.atom .mptr), some (.lit (.string (strB [239, 188, 142])))], []⟩) (.br (.rcmp (65294)) (.leaf ⟨.normal, [some (.atom .dcut), some (.atom .mptr), some (.lit (.string (strB [226, 128, 155, 239, 188, 142])))], []⟩) (.leaf ⟨.normal, [some (.atom .s), some (.atom .mptr), some (.lit (.string (strB [])))], []⟩))) (.leaf ⟨.normal, [some (.atom .s), some (.atom .mptr), some (.lit (.string (strB [])))], []⟩))
set_option maxRecDepth 1000000 in
theorem t6_is : (comp0 (rulesS true 602) (e35 6) [(1, .atom As.s), (2, .atom As.mptr), (5, (.lit (.string ⟨#[]⟩)))]).map (fun d => norm (fun _ => none) (strip1 [1, 2, 5] d)) = some t6 := by kernel_rfl
def t7 : DS As Unit := (.br (.has (524288)) (.br (.bcmp (126)) (.leaf ⟨.normal, [some (.atom .scut), some (.atom .mptr), some (.lit (.string (strB [239, 189, 158])))], []⟩) (.br (.rcmp (65374)) (.leaf ⟨.normal, [some (.atom .dcut), some (.atom .mptr), some (.lit (.string (strB [226, 128, 155, 239, 189, 158])))], []⟩) (.leaf ⟨.normal, [some (.atom .s), some (.atom .mptr), some (.lit (.string (strB [])))], []⟩))) (.leaf ⟨.normal, [some (.atom .s), some (.atom .mptr), some (.lit (.string (strB [])))], []⟩))
set_option maxRecDepth 1000000 in
theorem t7_is : (comp0 (rulesS true 602) (e35 7) [(1, .atom As.s), (2, .atom As.mptr), (5, (.lit (.string ⟨#[]⟩)))]).map (fun d => norm (fun _ => none) (strip1 [1, 2, 5] d)) = some t7 := by kernel_rfl
def t8 : DS As Unit := (.br (.has (1048576)) (.br (.bcmp (9)) (.leaf ⟨.normal, [some (.atom .scut), some (.atom .mptr), some (.atom .cstr)], []⟩) (.br (.bcmp (10)) (.leaf ⟨.normal, [some (.atom .scut), some (.atom .mptr), some (.atom .cstr)], []⟩) (.br (.bcmp (11)) (.leaf ⟨.normal, [some (.atom .scut), some (.atom .mptr), some (.atom .cstr)], []⟩) (.br (.bcmp (13)) (.leaf ⟨.normal, [some (.atom .scut), some (.atom .mptr), some (.atom .cstr)], []⟩) (.br (.rcmp (9225)) (.leaf ⟨.normal, [some (.atom .dcut), some (.atom .mptr), some (.atom .qrstr)], []⟩) (.br (.rcmp (9226)) (.leaf ⟨.normal, [some (.atom .dcut), some (.atom .mptr), some (.atom .qrstr)], []⟩) (.br (.rcmp (9227)) (.leaf ⟨.normal, [some (.atom .dcut), some (.atom .mptr), some (.atom .qrstr)], []⟩) (.br (.rcmp (9229)) (.leaf ⟨.normal, [some (.atom .dcut), some (.atom .mptr), some (.atom .qrstr)], []⟩) (.leaf ⟨.normal, [some (.atom .s), some (.atom .mptr), some (.lit (.string (strB [])))], []⟩))))))))) (.leaf ⟨.normal, [some (.atom .s), some (.atom .mptr), some (.lit (.string (strB [])))], []⟩))
set_option maxRecDepth 1000000 in
theorem t8_is : (comp0 (rulesS true 602) (e35 8) [(1, .atom As.s), (2, .atom As.mptr), (5, (.lit (.string ⟨#[]⟩)))]).map (fun d => norm (fun _ => none) (strip1 [1, 2, 5] d)) = some t8 := by kernel_rfl
def u6 : DS As Unit := (.br (.has (262144)) (.leaf ⟨.normal, [some (.atom .kept), some (.atom .mptr), some (.atom .pfx)], []⟩) (.leaf ⟨.normal, [some (.atom .kept), some (.atom .mptr), some (.atom .pfx)], []⟩))
set_option maxRecDepth 1000000 in
theorem u6_is : (comp0 (rulesS true 602) (e35 6) [(1, .atom As.kept), (2, .atom As.mptr), (5, .atom As.pfx)]).map (fun d => norm (fun _ => none) (strip1 [1, 2, 5] d)) = some u6 := by kernel_rfl
def u7 : DS As Unit := (.br (.has (524288)) (.leaf ⟨.normal, [some (.atom .kept), some (.atom .mptr), some (.atom .pfx)], []⟩) (.leaf ⟨.normal, [some (.atom .kept), some (.atom .mptr), some (.atom .pfx)], []⟩))
set_option maxRecDepth 1000000 in
theorem u7_is : (comp0 (rulesS true 602) (e35 7) [(1, .atom As.kept), (2, .atom As.mptr), (5, .atom As.pfx)]).map (fun d => norm (fun _ => none) (strip1 [1, 2, 5] d)) = some u7 := by kernel_rfl
def u8 : DS As Unit := (.br (.has (1048576)) (.leaf ⟨.normal, [some (.atom .kept), some (.atom .mptr), some (.atom .pfx)], []⟩) (.leaf ⟨.normal, [some (.atom .kept), some (.atom .mptr), some (.atom .pfx)], []⟩))
set_option maxRecDepth 1000000 in
theorem u8_is : (comp0 (rulesS true 602) (e35 8) [(1, .atom As.kept), (2, .atom As.mptr), (5, .atom As.pfx)]).map (fun d => norm (fun _ => none) (strip1 [1, 2, 5] d)) = some u8 := by kernel_rfl
def t9 : DS As Unit := (.leaf ⟨.normal, [some (.atom .kept), some (.atom .mptr), some (.atom .pfx), some (.lit (.string (strB [])))], []⟩)
def v9 : DS As Unit := (.leaf ⟨.normal, [some (.atom .kept), some (.atom .mptr), some (.lit (.string (strB []))), some (.lit (.string (strB [])))], []⟩)
def r0 : DS As Unit := (.br (.has (2097152)) (.br (.bcmp (32)) (.leaf ⟨.normal, [some (.atom .scut), some (.atom .mptr), some (.atom .pre), some (.lit (.string (strB [226, 144, 160])))], []⟩) (.br (.rcmp (9248)) (.leaf ⟨.normal, [some (.atom .dcut), some (.atom .mptr), some (.atom .pre), some (.lit (.string (strB [226, 128, 155, 226, 144, 160])))], []⟩) (.leaf ⟨.normal, [some (.atom .s), some (.atom .mptr), some (.atom .pre), some (.lit (.string (strB [])))], []⟩))) (.leaf ⟨.normal, [some (.atom .s), some (.atom .mptr), some (.atom .pre), some (.lit (.string (strB [])))], []⟩))
set_option maxRecDepth 1000000 in
theorem r0_is : (comp0 (rulesS false 602) (f35r 0) [(1, .atom As.s), (2, .atom As.mptr), (5, .atom As.pre), (15, (.lit (.string ⟨#[]⟩)))]).map (fun d => norm (fun _ => none) (strip1 [1, 2, 5, 15] d)) = some r0 := by kernel_rfl
def r1 : DS As Unit := (.br (.has (4194304)) (.br (.bcmp (46)) (.leaf ⟨.normal, [some (.atom .scut), some (.atom .mptr), some (.atom .pre), some (.lit (.string (strB [239, 188, 142])))], []⟩) (.br (.rcmp (65294)) (.leaf ⟨.normal, [some (.atom .dcut), some (.atom .mptr), some (.atom .pre), some (.lit (.string (strB [226, 128, 155, 239, 188, 142])))], []⟩) (.leaf ⟨.normal, [some (.atom .s), some (.atom .mptr), some (.atom .pre), some (.lit (.string (strB [])))], []⟩))) (.leaf ⟨.normal, [some (.atom .s), some (.atom .mptr), some (.atom .pre), some (.lit (.string (strB [])))], []⟩))
set_option maxRecDepth 1000000 in
theorem r1_is : (comp0 (rulesS false 602) (f35r 1) [(1, .atom As.s), (2, .atom As.mptr), (5, .atom As.pre), (15, (.lit (.string ⟨#[]⟩)))]).map (fun d => norm (fun _ => none) (strip1 [1, 2, 5, 15] d)) = some r1 := by kernel_rfl
def r2 : DS As Unit := (.br (.has (8388608)) (.br (.bcmp (9)) (.leaf ⟨.normal, [some (.atom .scut), some (.atom .mptr), some (.atom .pre), some (.atom .cstr)], []⟩) (.br (.bcmp (10)) (.leaf ⟨.normal, [some (.atom .scut), some (.atom .mptr), some (.atom .pre), some (.atom .cstr)], []⟩) (.br (.bcmp (11)) (.leaf ⟨.normal, [some (.atom .scut), some (.atom .mptr), some (.atom .pre), some (.atom .cstr)], []⟩) (.br (.bcmp (13)) (.leaf ⟨.normal, [some (.atom .scut), some (.atom .mptr), some (.atom .pre), some (.atom .cstr)], []⟩) (.br (.rcmp (9225)) (.leaf ⟨.normal, [some (.atom .dcut), some (.atom .mptr), some (.atom .pre), some (.atom .qrstr)], []⟩) (.br (.rcmp (9226)) (.leaf ⟨.normal, [some (.atom .dcut), some (.atom .mptr), some (.atom .pre), some (.atom .qrstr)], []⟩) (.br (.rcmp (9227)) (.leaf ⟨.normal, [some (.atom .dcut), some (.atom .mptr), some (.atom .pre), some (.atom .qrstr)], []⟩) (.br (.rcmp (9229)) (.leaf ⟨.normal, [some (.atom .dcut), some (.atom .mptr), some (.atom .pre), some (.atom .qrstr)], []⟩) (.leaf ⟨.normal, [some (.atom .s), some (.atom .mptr), some (.atom .pre), some (.lit (.string (strB [])))], []⟩))))))))) (.leaf ⟨.normal, [some (.atom .s), some (.atom .mptr), some (.atom .pre), some (.lit (.string (strB [])))], []⟩))
set_option maxRecDepth 1000000 in
theorem r2_is : (comp0 (rulesS false 602) (f35r 2) [(1, .atom As.s), (2, .atom As.mptr), (5, .atom As.pre), (15, (.lit (.string ⟨#[]⟩)))]).map (fun d => norm (fun _ => none) (strip1 [1, 2, 5, 15] d)) = some r2 := by kernel_rfl
def w1 : DS As Unit := (.br (.has (4194304)) (.leaf ⟨.normal, [some (.atom .kept), some (.atom .mptr), some (.atom .pre), some (.atom .pfx)], []⟩) (.leaf ⟨.normal, [some (.atom .kept), some (.atom .mptr), some (.atom .pre), some (.atom .pfx)], []⟩))
set_option maxRecDepth 1000000 in
theorem w1_is : (comp0 (rulesS false 602) (f35r 1) [(1, .atom As.kept), (2, .atom As.mptr), (5, .atom As.pre), (15, .atom As.pfx)]).map (fun d => norm (fun _ => none) (strip1 [1, 2, 5, 15] d)) = some w1 := by kernel_rfl
def w2 : DS As Unit := (.br (.has (8388608)) (.leaf ⟨.normal, [some (.atom .kept), some (.atom .mptr), some (.atom .pre), some (.atom .pfx)], []⟩) (.leaf ⟨.normal, [some (.atom .kept), some (.atom .mptr), some (.atom .pre), some (.atom .pfx)], []⟩))
set_option maxRecDepth 1000000 in
theorem w2_is : (comp0 (rulesS false 602) (f35r 2) [(1, .atom As.kept), (2, .atom As.mptr), (5, .atom As.pre), (15, .atom As.pfx)]).map (fun d => norm (fun _ => none) (strip1 [1, 2, 5, 15] d)) = some w2 := by kernel_rfl
def r50 : DS As Unit := (.leaf ⟨.normal, [some (.atom .kept), some (.atom .mptr), some (.atom .pre), some (.atom .suf), some (.atom .nk)], []⟩)
set_option maxRecDepth 1000000 in
theorem r50_is : (comp0 (rulesS false 602) (nth (sp (e35 10)) 0) [(1, .atom As.kept), (2, .atom As.mptr), (5, .atom As.pre), (15, .atom As.suf)]).map (fun d => norm (fun _ => none) (strip1 [1, 2, 5, 15, 144] d)) = some r50 := by kernel_rfl
def r79 : DS As Unit := (.br As.pe (.leaf ⟨.normal, [some (.atom .kept), some (.atom .mptr), some (.atom .pre), some (.atom .suf), some (.lit (.int .i64 (0))), some (.atom .se)], []⟩) (.leaf ⟨.normal, [some (.atom .kept), some (.atom .mptr), some (.atom .pre), some (.atom .suf), some (.lit (.int .i64 (0))), some (.lit (.bool false))], []⟩))
set_option maxRecDepth 1000000 in
theorem r79_is : (comp0 (rulesS false 602) (nth (sp (e35 12)) 0) [(1, .atom As.kept), (2, .atom As.mptr), (5, .atom As.pre), (15, .atom As.suf), (23, .lit (.int .i64 0))]).map (fun d => norm (fun _ => none) (strip1 [1, 2, 5, 15, 23, 252] d)) = some r79 := by kernel_rfl
def r80 : DS As Unit := (.leaf ⟨.normal, [some (.atom .kept), some (.atom .mptr), some (.atom .pre), some (.atom .suf), some (E.atom (.idx 60))], []⟩)
set_option maxRecDepth 1000000 in
theorem r80_is : (comp0 (rulesS false 602) (thn (e35 12)) [(1, .atom As.kept), (2, .atom As.mptr), (5, .atom As.pre), (15, .atom As.suf)]).map (fun d => norm (fun _ => none) (strip1 [1, 2, 5, 15, 23] d)) = some r80 := by kernel_rfl
def t11 : DS As Unit := (.leaf ⟨.normal, [some (.atom .kept), some (.atom .mptr), some (.atom .pre), some (.atom .suf), some (.lit (.int .i64 (0)))], []⟩)
set_option maxRecDepth 1000000 in
theorem t11_is : (comp0 (rulesS false 602) (e35 11) [(1, .atom As.kept), (2, .atom As.mptr), (5, .atom As.pre), (15, .atom As.suf)]).map (fun d => norm (fun _ => none) (strip1 [1, 2, 5, 15, 23] d)) = some t11 := by kernel_rfl
end Go.Proofs.YtonmnpmklkbioaaDoor.Sy
/- What Encode does at a string's ends, as plain functions, and that the trees say so. -/
namespace Go.Proofs.YtonmnpmklkbioaaDoor.Sy
open Go.RowKit Go.Proofs.YtonmnpmklkbioaaDoorW.PrintWords
set_option linter.unusedVariables false
set_option linter.unusedSimpArgs false
/-- What stands for a character of ASCII. -/
def signI (c : Int) : Int := if c ≤ 32 then 9216 + c else if c = 127 then 9249 else c + 65248
/-- An end of a string: its byte, its rune, the string without the one, without the other. -/
structure En where
  b : Int
  r : Int
  cut : ByteArray
  dcut : ByteArray
def enL (S : ByteArray) : En := ⟨bt S 0, ((Lib.decodeGo S).1 : Int), S.extract 1 S.size, S.extract (Lib.decodeGo S).2 S.size⟩
def enR (S : ByteArray) : En := ⟨bt S ((S.size : Int) - 1), ((Lib.decodeLastL S.data.toList).1 : Int), S.extract 0 (S.size - 1), S.extract 0 (S.size - (Lib.decodeLastL S.data.toList).2)⟩
/-- One bit of an end: what is left, and what is written for what was taken. -/
def stg (m bit : Int) (cs : List Int) (e : En) : Option (ByteArray × ByteArray) :=
  bif hasB m bit then (bif cs.contains e.b then some (e.cut, strB (Lib.encodeRune (signI e.b))) else bif (cs.map signI).contains e.r then some (e.dcut, strB (quoteL ++ Lib.encodeRune e.r)) else none) else none
def orO {α : Type} (a b : Option α) : Option α := match a with
  | some x => some x
  | none => b
abbrev noB : ByteArray := ⟨#[]⟩
theorem enL_of (x : Cs) (h : x.left = true) : enL x.S = ⟨x.b, (x.d.1 : Int), x.sc, x.dc⟩ := by
  unfold enL Cs.b Cs.sc Cs.dc Cs.d
  simp only [h, if_true]
theorem enR_of (x : Cs) (h : x.left = false) : enR x.S = ⟨x.b, (x.d.1 : Int), x.sc, x.dc⟩ := by
  unfold enR Cs.b Cs.sc Cs.dc Cs.d
  simp only [h, Bool.false_eq_true, if_false]
theorem sign32 : strB [226, 144, 160] = strB (Lib.encodeRune (signI 32)) := by decide
theorem sign46 : strB [239, 188, 142] = strB (Lib.encodeRune (signI 46)) := by decide
theorem sign126 : strB [239, 189, 158] = strB (Lib.encodeRune (signI 126)) := by decide
theorem qsign32 : strB [226, 128, 155, 226, 144, 160] = strB (quoteL ++ Lib.encodeRune 9248) := by decide
theorem qsign46 : strB [226, 128, 155, 239, 188, 142] = strB (quoteL ++ Lib.encodeRune 65294) := by decide
theorem qsign126 : strB [226, 128, 155, 239, 189, 158] = strB (quoteL ++ Lib.encodeRune 65374) := by decide
theorem t5_run (x : Cs) (hl : x.left = true) (e : En) (he : enL x.S = e) : (t5.run x.B).x = .normal ∧ (t5.run x.B).tr = [] ∧ vals x.V [1, 2, 5] (t5.run x.B).es = [(1, .string ((stg x.m 131072 [32] e).getD (x.S, noB)).1), (2, .pointer (some x.mp)), (5, .string ((stg x.m 131072 [32] e).getD (x.S, noB)).2)] := by
  rw [enL_of x hl] at he
  subst he
  unfold t5 stg
  simp only [DS.run, Cs.B]
  cases hasB x.m 131072 with
  | false => exact ⟨rfl, rfl, rfl⟩
  | true =>
    simp only [cond_true]
    by_cases h1 : x.b = 32
    · have e1 : (x.b == 32) = true := by rw [h1]; rfl
      have e2 : List.contains [32] x.b = true := by rw [h1]; rfl
      rw [e1, e2]
      refine ⟨rfl, rfl, ?_⟩
      simp only [cond_true, Option.getD_some]
      rw [h1, ← sign32]
      rfl
    · have e1 : (x.b == 32) = false := by simpa using h1
      have e2 : List.contains [(32 : Int)] x.b = false := by simpa using h1
      rw [e1, e2]
      simp only [cond_false]
      by_cases h2 : (x.d.1 : Int) = 9248
      · have e3 : ((x.d.1 : Int) == 9248) = true := by rw [h2]; rfl
        have e4 : List.contains (List.map signI [32]) (x.d.1 : Int) = true := by rw [h2]; rfl
        rw [e3, e4]
        refine ⟨rfl, rfl, ?_⟩
        simp only [cond_true, Option.getD_some]
        rw [h2, ← qsign32]
        rfl
      · have e3 : ((x.d.1 : Int) == 9248) = false := by simpa using h2
        have e4 : List.contains (List.map signI [(32 : Int)]) (x.d.1 : Int) = false := by
          rw [show List.map signI [(32 : Int)] = [9248] by decide]
          simpa using h2
        rw [e3, e4]
        exact ⟨rfl, rfl, rfl⟩
theorem t6_run (x : Cs) (hl : x.left = true) (e : En) (he : enL x.S = e) : (t6.run x.B).x = .normal ∧ (t6.run x.B).tr = [] ∧ vals x.V [1, 2, 5] (t6.run x.B).es = [(1, .string ((stg x.m 262144 [46] e).getD (x.S, noB)).1), (2, .pointer (some x.mp)), (5, .string ((stg x.m 262144 [46] e).getD (x.S, noB)).2)] := by
  rw [enL_of x hl] at he
  subst he
  unfold t6 stg
  simp only [DS.run, Cs.B]
  cases hasB x.m 262144 with
  | false => exact ⟨rfl, rfl, rfl⟩
  | true =>
    simp only [cond_true]
    by_cases h1 : x.b = 46
    · have e1 : (x.b == 46) = true := by rw [h1]; rfl
      have e2 : List.contains [46] x.b = true := by rw [h1]; rfl
      rw [e1, e2]
      refine ⟨rfl, rfl, ?_⟩
      simp only [cond_true, Option.getD_some]
      rw [h1, ← sign46]
      rfl
    · have e1 : (x.b == 46) = false := by simpa using h1
      have e2 : List.contains [(46 : Int)] x.b = false := by simpa using h1
      rw [e1, e2]
      simp only [cond_false]
      by_cases h2 : (x.d.1 : Int) = 65294
      · have e3 : ((x.d.1 : Int) == 65294) = true := by rw [h2]; rfl
        have e4 : List.contains (List.map signI [46]) (x.d.1 : Int) = true := by rw [h2]; rfl
        rw [e3, e4]
        refine ⟨rfl, rfl, ?_⟩
        simp only [cond_true, Option.getD_some]
        rw [h2, ← qsign46]
        rfl
      · have e3 : ((x.d.1 : Int) == 65294) = false := by simpa using h2
        have e4 : List.contains (List.map signI [(46 : Int)]) (x.d.1 : Int) = false := by
          rw [show List.map signI [(46 : Int)] = [65294] by decide]
          simpa using h2
        rw [e3, e4]
        exact ⟨rfl, rfl, rfl⟩
theorem t7_run (x : Cs) (hl : x.left = true) (e : En) (he : enL x.S = e) : (t7.run x.B).x = .normal ∧ (t7.run x.B).tr = [] ∧ vals x.V [1, 2, 5] (t7.run x.B).es = [(1, .string ((stg x.m 524288 [126] e).getD (x.S, noB)).1), (2, .pointer (some x.mp)), (5, .string ((stg x.m 524288 [126] e).getD (x.S, noB)).2)] := by
  rw [enL_of x hl] at he
  subst he
  unfold t7 stg
  simp only [DS.run, Cs.B]
  cases hasB x.m 524288 with
  | false => exact ⟨rfl, rfl, rfl⟩
  | true =>
    simp only [cond_true]
    by_cases h1 : x.b = 126
    · have e1 : (x.b == 126) = true := by rw [h1]; rfl
      have e2 : List.contains [126] x.b = true := by rw [h1]; rfl
      rw [e1, e2]
      refine ⟨rfl, rfl, ?_⟩
      simp only [cond_true, Option.getD_some]
      rw [h1, ← sign126]
      rfl
    · have e1 : (x.b == 126) = false := by simpa using h1
      have e2 : List.contains [(126 : Int)] x.b = false := by simpa using h1
      rw [e1, e2]
      simp only [cond_false]
      by_cases h2 : (x.d.1 : Int) = 65374
      · have e3 : ((x.d.1 : Int) == 65374) = true := by rw [h2]; rfl
        have e4 : List.contains (List.map signI [126]) (x.d.1 : Int) = true := by rw [h2]; rfl
        rw [e3, e4]
        refine ⟨rfl, rfl, ?_⟩
        simp only [cond_true, Option.getD_some]
        rw [h2, ← qsign126]
        rfl
      · have e3 : ((x.d.1 : Int) == 65374) = false := by simpa using h2
        have e4 : List.contains (List.map signI [(126 : Int)]) (x.d.1 : Int) = false := by
          rw [show List.map signI [(126 : Int)] = [65374] by decide]
          simpa using h2
        rw [e3, e4]
        exact ⟨rfl, rfl, rfl⟩
theorem t8_run (x : Cs) (hl : x.left = true) (e : En) (he : enL x.S = e) : (t8.run x.B).x = .normal ∧ (t8.run x.B).tr = [] ∧ vals x.V [1, 2, 5] (t8.run x.B).es = [(1, .string ((stg x.m 1048576 [9, 10, 11, 13] e).getD (x.S, noB)).1), (2, .pointer (some x.mp)), (5, .string ((stg x.m 1048576 [9, 10, 11, 13] e).getD (x.S, noB)).2)] := by
  rw [enL_of x hl] at he
  subst he
  unfold t8 stg
  simp only [DS.run, Cs.B]
  cases hasB x.m 1048576 with
  | false => exact ⟨rfl, rfl, rfl⟩
  | true =>
    simp only [cond_true]
    have hs : List.map signI [9, 10, 11, 13] = [9225, 9226, 9227, 9229] := by decide
    rw [hs]
    by_cases h1 : x.b = 9 ∨ x.b = 10 ∨ x.b = 11 ∨ x.b = 13
    · have hsg : signI x.b = 9216 + x.b := by unfold signI; rw [if_pos (by omega)]
      have e2 : List.contains [(9 : Int), 10, 11, 13] x.b = true := by rcases h1 with h | h | h | h <;> rw [h] <;> rfl
      rw [e2]
      simp only [cond_true, Option.getD_some]
      rw [hsg]
      rcases h1 with h | h | h | h
      all_goals
        simp only [h]
        exact ⟨rfl, rfl, by simp only [vals, List.zip_cons_cons, List.zip_nil_right, List.filterMap_cons, List.filterMap_nil, Option.map_some, E.val, Cs.V, h]; rfl⟩
    · have e1 : (x.b == 9) = false ∧ (x.b == 10) = false ∧ (x.b == 11) = false ∧ (x.b == 13) = false := by simp; omega
      have e2 : List.contains [(9 : Int), 10, 11, 13] x.b = false := by simp; omega
      rw [e1.1, e1.2.1, e1.2.2.1, e1.2.2.2, e2]
      simp only [cond_false]
      by_cases h2 : (x.d.1 : Int) = 9225 ∨ (x.d.1 : Int) = 9226 ∨ (x.d.1 : Int) = 9227 ∨ (x.d.1 : Int) = 9229
      · have e4 : List.contains [(9225 : Int), 9226, 9227, 9229] (x.d.1 : Int) = true := by rcases h2 with h | h | h | h <;> rw [h] <;> rfl
        rw [e4]
        simp only [cond_true, Option.getD_some]
        rcases h2 with h | h | h | h
        all_goals
          simp only [h]
          exact ⟨rfl, rfl, by simp only [vals, List.zip_cons_cons, List.zip_nil_right, List.filterMap_cons, List.filterMap_nil, Option.map_some, E.val, Cs.V, h]; rfl⟩
      · have e3 : ((x.d.1 : Int) == 9225) = false ∧ ((x.d.1 : Int) == 9226) = false ∧ ((x.d.1 : Int) == 9227) = false ∧ ((x.d.1 : Int) == 9229) = false := by simp; omega
        have e4 : List.contains [(9225 : Int), 9226, 9227, 9229] (x.d.1 : Int) = false := by simp; omega
        rw [e3.1, e3.2.1, e3.2.2.1, e3.2.2.2, e4]
        exact ⟨rfl, rfl, rfl⟩
theorem r0_run (x : Cs) (hl : x.left = false) (e : En) (he : enR x.S = e) : (r0.run x.B).x = .normal ∧ (r0.run x.B).tr = [] ∧ vals x.V [1, 2, 5, 15] (r0.run x.B).es = [(1, .string ((stg x.m 2097152 [32] e).getD (x.S, noB)).1), (2, .pointer (some x.mp)), (5, .string x.P0), (15, .string ((stg x.m 2097152 [32] e).getD (x.S, noB)).2)] := by
  rw [enR_of x hl] at he
  subst he
  unfold r0 stg
  simp only [DS.run, Cs.B]
  cases hasB x.m 2097152 with
  | false => exact ⟨rfl, rfl, rfl⟩
  | true =>
    simp only [cond_true]
    by_cases h1 : x.b = 32
    · have e1 : (x.b == 32) = true := by rw [h1]; rfl
      have e2 : List.contains [32] x.b = true := by rw [h1]; rfl
      rw [e1, e2]
      refine ⟨rfl, rfl, ?_⟩
      simp only [cond_true, Option.getD_some]
      rw [h1, ← sign32]
      rfl
    · have e1 : (x.b == 32) = false := by simpa using h1
      have e2 : List.contains [(32 : Int)] x.b = false := by simpa using h1
      rw [e1, e2]
      simp only [cond_false]
      by_cases h2 : (x.d.1 : Int) = 9248
      · have e3 : ((x.d.1 : Int) == 9248) = true := by rw [h2]; rfl
        have e4 : List.contains (List.map signI [32]) (x.d.1 : Int) = true := by rw [h2]; rfl
        rw [e3, e4]
        refine ⟨rfl, rfl, ?_⟩
        simp only [cond_true, Option.getD_some]
        rw [h2, ← qsign32]
        rfl
      · have e3 : ((x.d.1 : Int) == 9248) = false := by simpa using h2
        have e4 : List.contains (List.map signI [(32 : Int)]) (x.d.1 : Int) = false := by
          rw [show List.map signI [(32 : Int)] = [9248] by decide]
          simpa using h2
        rw [e3, e4]
        exact ⟨rfl, rfl, rfl⟩
theorem r1_run (x : Cs) (hl : x.left = false) (e : En) (he : enR x.S = e) : (r1.run x.B).x = .normal ∧ (r1.run x.B).tr = [] ∧ vals x.V [1, 2, 5, 15] (r1.run x.B).es = [(1, .string ((stg x.m 4194304 [46] e).getD (x.S, noB)).1), (2, .pointer (some x.mp)), (5, .string x.P0), (15, .string ((stg x.m 4194304 [46] e).getD (x.S, noB)).2)] := by
  rw [enR_of x hl] at he
  subst he
  unfold r1 stg
  simp only [DS.run, Cs.B]
  cases hasB x.m 4194304 with
  | false => exact ⟨rfl, rfl, rfl⟩
  | true =>
    simp only [cond_true]
    by_cases h1 : x.b = 46
    · have e1 : (x.b == 46) = true := by rw [h1]; rfl
      have e2 : List.contains [46] x.b = true := by rw [h1]; rfl
      rw [e1, e2]
      refine ⟨rfl, rfl, ?_⟩
      simp only [cond_true, Option.getD_some]
      rw [h1, ← sign46]
      rfl
    · have e1 : (x.b == 46) = false := by simpa using h1
      have e2 : List.contains [(46 : Int)] x.b = false := by simpa using h1
      rw [e1, e2]
      simp only [cond_false]
      by_cases h2 : (x.d.1 : Int) = 65294
      · have e3 : ((x.d.1 : Int) == 65294) = true := by rw [h2]; rfl
        have e4 : List.contains (List.map signI [46]) (x.d.1 : Int) = true := by rw [h2]; rfl
        rw [e3, e4]
        refine ⟨rfl, rfl, ?_⟩
        simp only [cond_true, Option.getD_some]
        rw [h2, ← qsign46]
        rfl
      · have e3 : ((x.d.1 : Int) == 65294) = false := by simpa using h2
        have e4 : List.contains (List.map signI [(46 : Int)]) (x.d.1 : Int) = false := by
          rw [show List.map signI [(46 : Int)] = [65294] by decide]
          simpa using h2
        rw [e3, e4]
        exact ⟨rfl, rfl, rfl⟩
theorem r2_run (x : Cs) (hl : x.left = false) (e : En) (he : enR x.S = e) : (r2.run x.B).x = .normal ∧ (r2.run x.B).tr = [] ∧ vals x.V [1, 2, 5, 15] (r2.run x.B).es = [(1, .string ((stg x.m 8388608 [9, 10, 11, 13] e).getD (x.S, noB)).1), (2, .pointer (some x.mp)), (5, .string x.P0), (15, .string ((stg x.m 8388608 [9, 10, 11, 13] e).getD (x.S, noB)).2)] := by
  rw [enR_of x hl] at he
  subst he
  unfold r2 stg
  simp only [DS.run, Cs.B]
  cases hasB x.m 8388608 with
  | false => exact ⟨rfl, rfl, rfl⟩
  | true =>
    simp only [cond_true]
    have hs : List.map signI [9, 10, 11, 13] = [9225, 9226, 9227, 9229] := by decide
    rw [hs]
    by_cases h1 : x.b = 9 ∨ x.b = 10 ∨ x.b = 11 ∨ x.b = 13
    · have hsg : signI x.b = 9216 + x.b := by unfold signI; rw [if_pos (by omega)]
      have e2 : List.contains [(9 : Int), 10, 11, 13] x.b = true := by rcases h1 with h | h | h | h <;> rw [h] <;> rfl
      rw [e2]
      simp only [cond_true, Option.getD_some]
      rw [hsg]
      rcases h1 with h | h | h | h
      all_goals
        simp only [h]
        exact ⟨rfl, rfl, by simp only [vals, List.zip_cons_cons, List.zip_nil_right, List.filterMap_cons, List.filterMap_nil, Option.map_some, E.val, Cs.V, h]; rfl⟩
    · have e1 : (x.b == 9) = false ∧ (x.b == 10) = false ∧ (x.b == 11) = false ∧ (x.b == 13) = false := by simp; omega
      have e2 : List.contains [(9 : Int), 10, 11, 13] x.b = false := by simp; omega
      rw [e1.1, e1.2.1, e1.2.2.1, e1.2.2.2, e2]
      simp only [cond_false]
      by_cases h2 : (x.d.1 : Int) = 9225 ∨ (x.d.1 : Int) = 9226 ∨ (x.d.1 : Int) = 9227 ∨ (x.d.1 : Int) = 9229
      · have e4 : List.contains [(9225 : Int), 9226, 9227, 9229] (x.d.1 : Int) = true := by rcases h2 with h | h | h | h <;> rw [h] <;> rfl
        rw [e4]
        simp only [cond_true, Option.getD_some]
        rcases h2 with h | h | h | h
        all_goals
          simp only [h]
          exact ⟨rfl, rfl, by simp only [vals, List.zip_cons_cons, List.zip_nil_right, List.filterMap_cons, List.filterMap_nil, Option.map_some, E.val, Cs.V, h]; rfl⟩
      · have e3 : ((x.d.1 : Int) == 9225) = false ∧ ((x.d.1 : Int) == 9226) = false ∧ ((x.d.1 : Int) == 9227) = false ∧ ((x.d.1 : Int) == 9229) = false := by simp; omega
        have e4 : List.contains [(9225 : Int), 9226, 9227, 9229] (x.d.1 : Int) = false := by simp; omega
        rw [e3.1, e3.2.1, e3.2.2.1, e3.2.2.2, e4]
        exact ⟨rfl, rfl, rfl⟩
theorem u6_run (x : Cs) : (u6.run x.B).x = .normal ∧ (u6.run x.B).tr = [] ∧ vals x.V [1, 2, 5] (u6.run x.B).es = [(1, .string x.K), (2, .pointer (some x.mp)), (5, .string x.P)] := by
  unfold u6
  simp only [DS.run]
  cases x.B (.has 262144) <;> exact ⟨rfl, rfl, rfl⟩
theorem u7_run (x : Cs) : (u7.run x.B).x = .normal ∧ (u7.run x.B).tr = [] ∧ vals x.V [1, 2, 5] (u7.run x.B).es = [(1, .string x.K), (2, .pointer (some x.mp)), (5, .string x.P)] := by
  unfold u7
  simp only [DS.run]
  cases x.B (.has 524288) <;> exact ⟨rfl, rfl, rfl⟩
theorem u8_run (x : Cs) : (u8.run x.B).x = .normal ∧ (u8.run x.B).tr = [] ∧ vals x.V [1, 2, 5] (u8.run x.B).es = [(1, .string x.K), (2, .pointer (some x.mp)), (5, .string x.P)] := by
  unfold u8
  simp only [DS.run]
  cases x.B (.has 1048576) <;> exact ⟨rfl, rfl, rfl⟩
theorem w1_run (x : Cs) : (w1.run x.B).x = .normal ∧ (w1.run x.B).tr = [] ∧ vals x.V [1, 2, 5, 15] (w1.run x.B).es = [(1, .string x.K), (2, .pointer (some x.mp)), (5, .string x.P0), (15, .string x.P)] := by
  unfold w1
  simp only [DS.run]
  cases x.B (.has 4194304) <;> exact ⟨rfl, rfl, rfl⟩
theorem w2_run (x : Cs) : (w2.run x.B).x = .normal ∧ (w2.run x.B).tr = [] ∧ vals x.V [1, 2, 5, 15] (w2.run x.B).es = [(1, .string x.K), (2, .pointer (some x.mp)), (5, .string x.P0), (15, .string x.P)] := by
  unfold w2
  simp only [DS.run]
  cases x.B (.has 8388608) <;> exact ⟨rfl, rfl, rfl⟩
end Go.Proofs.YtonmnpmklkbioaaDoor.Sy
/- The walk of Encode's statements ahead of its buffer. -/
namespace Go.Proofs.YtonmnpmklkbioaaDoor.Sy
open Go.RowKit Go.Proofs.YtonmnpmklkbioaaDoorW.PrintWords
set_option linter.unusedVariables false
set_option linter.unusedSimpArgs false
theorem st_step {left : Bool} {c rest : Code} {d : DS As Unit} {env : Env As} {ks : List Nat} {l : List (Nat × Value)} (x : Cs) (hl : x.left = left) (hx : OkS x) {w0 : World} (hw : WorldOk w0 x.mp x.m)
    (his : (comp0 (rulesS left 602) c env).map (fun D => norm (fun _ => none) (strip1 ks D)) = some d) (hrun : (d.run x.B).x = .normal ∧ (d.run x.B).tr = [] ∧ vals x.V ks (d.run x.B).es = l) {a : Act} {w : World} {Q : Exit → Act → World → Prop}
    (hA : St 602 (env.map fun p => (p.1, p.2.val x.V)) a) (hR : Below w0.heap.size w0 w) (hQ : ∀ a' w', St 602 l a' → Below w0.heap.size w0 w' → rest.wp Tryd.prog Q a' w') : (Code.seq c rest).wp Tryd.prog Q a w := by
  subst hl
  refine wp_seq (tree_st (soundS 602 x hx w0 hw) his hA hR (by rw [hrun.1]; intro h; cases h) (fun a' w' h1 h2 => ?_))
  rw [hrun.1]
  rw [hrun.2.2] at h1
  exact hQ a' w' h1 h2
theorem st_last {left : Bool} {c : Code} {d : DS As Unit} {env : Env As} {ks : List Nat} {l : List (Nat × Value)} (x : Cs) (hl : x.left = left) (hx : OkS x) {w0 : World} (hw : WorldOk w0 x.mp x.m)
    (his : (comp0 (rulesS left 602) c env).map (fun D => norm (fun _ => none) (strip1 ks D)) = some d) (hrun : (d.run x.B).x = .normal ∧ (d.run x.B).tr = [] ∧ vals x.V ks (d.run x.B).es = l) {a : Act} {w : World} {Q : Exit → Act → World → Prop}
    (hA : St 602 (env.map fun p => (p.1, p.2.val x.V)) a) (hR : Below w0.heap.size w0 w) (hQ : ∀ a' w', St 602 l a' → Below w0.heap.size w0 w' → Q .normal a' w') : c.wp Tryd.prog Q a w := by
  subst hl
  refine tree_st (soundS 602 x hx w0 hw) his hA hR (by rw [hrun.1]; intro h; cases h) (fun a' w' h1 h2 => ?_)
  rw [hrun.1]
  rw [hrun.2.2] at h1
  exact hQ a' w' h1 h2
theorem size_strB (l : List UInt8) : (strB l).size = l.length := List.size_toArray
theorem rune_pos (r : Int) : 0 < (Lib.encodeRune r).length := by
  unfold Lib.encodeRune
  rw [List.length_map]
  have := (Lib.encodeRuneZ_length r).1
  omega
theorem rune_le (r : Int) : (Lib.encodeRune r).length ≤ 4 := by
  unfold Lib.encodeRune
  rw [List.length_map]
  exact (Lib.encodeRuneZ_length r).2
theorem stg_pos {m bit : Int} {cs : List Int} {e : En} {p : ByteArray × ByteArray} (h : stg m bit cs e = some p) : p.2.size ≠ 0 ∧ p.2.size ≤ 7 ∧ (p.1 = e.cut ∨ p.1 = e.dcut) := by
  unfold stg at h
  cases hh : hasB m bit with
  | false =>
    rw [hh, cond_false] at h
    cases h
  | true =>
    rw [hh, cond_true] at h
    cases hc : cs.contains e.b with
    | true =>
      rw [hc, cond_true] at h
      cases h
      have := rune_pos (signI e.b)
      have := rune_le (signI e.b)
      refine ⟨?_, ?_, .inl rfl⟩ <;> simp only [size_strB] <;> omega
    | false =>
      rw [hc, cond_false] at h
      cases hd : (cs.map signI).contains e.r with
      | true =>
        rw [hd, cond_true] at h
        cases h
        have := rune_pos e.r
        have := rune_le e.r
        refine ⟨?_, ?_, .inr rfl⟩ <;> simp only [size_strB, List.length_append] <;> simp only [quoteL, List.length_cons, List.length_nil] <;> omega
      | false =>
        rw [hd, cond_false] at h
        cases h
abbrev one : ByteArray := ⟨#[0]⟩
theorem one_pos : 0 < one.size := by decide
theorem one_ne : one.size ≠ 0 := by decide
theorem one_le : one.size ≤ 140737488351232 := by decide
/-- What Encode does at the left end: what is left, what stands ahead. -/
def leftO (m : Int) (S : ByteArray) : ByteArray × ByteArray :=
  (orO (stg m 131072 [32] (enL S)) (orO (stg m 262144 [46] (enL S)) (orO (stg m 524288 [126] (enL S)) (stg m 1048576 [9, 10, 11, 13] (enL S))))).getD (S, noB)
def rightO (m : Int) (S : ByteArray) : ByteArray × ByteArray :=
  bif S.toList == [] then (S, noB) else (orO (stg m 2097152 [32] (enR S)) (orO (stg m 4194304 [46] (enR S)) (stg m 8388608 [9, 10, 11, 13] (enR S)))).getD (S, noB)
theorem left_wp {mp : Addr} {m : Int} {S : ByteArray} (hp : 0 < S.size) (hm : S.size ≤ 140737488351232) {w0 : World} (hw : WorldOk w0 mp m) {rest : Code} {Q : Exit → Act → World → Prop} {a : Act} {w : World}
    (hA : St 602 [(1, .string S), (2, .pointer (some mp)), (5, .string noB)] a) (hR : Below w0.heap.size w0 w)
    (hQ : ∀ a' w', St 602 [(1, .string (leftO m S).1), (2, .pointer (some mp)), (5, .string (leftO m S).2)] a' → Below w0.heap.size w0 w' → rest.wp Tryd.prog Q a' w') :
    (Code.seq (e35 5) (.seq (e35 6) (.seq (e35 7) (.seq (e35 8) rest)))).wp Tryd.prog Q a w := by
  have xA : OkS ⟨mp, m, S, true, one, noB, noB, noB⟩ := ⟨hp, hm, one_ne⟩
  have xB : ∀ p : ByteArray × ByteArray, p.2.size ≠ 0 → OkS ⟨mp, m, one, true, p.2, p.1, noB, noB⟩ := fun p h => ⟨one_pos, one_le, h⟩
  refine st_step ⟨mp, m, S, true, one, noB, noB, noB⟩ rfl xA hw t5_is (t5_run _ rfl (enL S) rfl) hA hR (fun a5 w5 h5 hR5 => ?_)
  unfold leftO at hQ
  cases h1 : stg m 131072 [32] (enL S) with
  | some p =>
    have hpp := (stg_pos h1).1
    simp only [h1, orO, Option.getD_some] at h5 hQ
    refine st_step ⟨mp, m, one, true, p.2, p.1, noB, noB⟩ rfl (xB p hpp) hw u6_is (u6_run _) h5 hR5 (fun a6 w6 h6 hR6 => ?_)
    refine st_step ⟨mp, m, one, true, p.2, p.1, noB, noB⟩ rfl (xB p hpp) hw u7_is (u7_run _) h6 hR6 (fun a7 w7 h7 hR7 => ?_)
    exact st_step ⟨mp, m, one, true, p.2, p.1, noB, noB⟩ rfl (xB p hpp) hw u8_is (u8_run _) h7 hR7 hQ
  | none =>
    simp only [h1, orO, Option.getD_none] at h5 hQ
    refine st_step ⟨mp, m, S, true, one, noB, noB, noB⟩ rfl xA hw t6_is (t6_run _ rfl (enL S) rfl) h5 hR5 (fun a6 w6 h6 hR6 => ?_)
    cases h2 : stg m 262144 [46] (enL S) with
    | some p =>
      have hpp := (stg_pos h2).1
      simp only [h2, orO, Option.getD_some] at h6 hQ
      refine st_step ⟨mp, m, one, true, p.2, p.1, noB, noB⟩ rfl (xB p hpp) hw u7_is (u7_run _) h6 hR6 (fun a7 w7 h7 hR7 => ?_)
      exact st_step ⟨mp, m, one, true, p.2, p.1, noB, noB⟩ rfl (xB p hpp) hw u8_is (u8_run _) h7 hR7 hQ
    | none =>
      simp only [h2, orO, Option.getD_none] at h6 hQ
      refine st_step ⟨mp, m, S, true, one, noB, noB, noB⟩ rfl xA hw t7_is (t7_run _ rfl (enL S) rfl) h6 hR6 (fun a7 w7 h7 hR7 => ?_)
      cases h3 : stg m 524288 [126] (enL S) with
      | some p =>
        have hpp := (stg_pos h3).1
        simp only [h3, orO, Option.getD_some] at h7 hQ
        exact st_step ⟨mp, m, one, true, p.2, p.1, noB, noB⟩ rfl (xB p hpp) hw u8_is (u8_run _) h7 hR7 hQ
      | none =>
        simp only [h3, orO, Option.getD_none] at h7 hQ
        exact st_step ⟨mp, m, S, true, one, noB, noB, noB⟩ rfl xA hw t8_is (t8_run _ rfl (enL S) rfl) h7 hR7 hQ
theorem right_wp {mp : Addr} {m : Int} {S P : ByteArray} (hp : 0 < S.size) (hm : S.size ≤ 140737488351232) {w0 : World} (hw : WorldOk w0 mp m) {Q : Exit → Act → World → Prop} {a : Act} {w : World}
    (hA : St 602 [(1, .string S), (2, .pointer (some mp)), (5, .string P), (15, .string noB)] a) (hR : Below w0.heap.size w0 w)
    (hQ : ∀ a' w', St 602 [(1, .string (rightO m S).1), (2, .pointer (some mp)), (5, .string P), (15, .string (rightO m S).2)] a' → Below w0.heap.size w0 w' → Q .normal a' w') :
    (Code.seq (f35r 0) (.seq (f35r 1) (f35r 2))).wp Tryd.prog Q a w := by
  have xA : OkS ⟨mp, m, S, false, one, noB, P, noB⟩ := ⟨hp, hm, one_ne⟩
  have xB : ∀ p : ByteArray × ByteArray, p.2.size ≠ 0 → OkS ⟨mp, m, one, false, p.2, p.1, P, noB⟩ := fun p h => ⟨one_pos, one_le, h⟩
  have hne : (S.toList == []) = false := by
    rw [tl_eq]
    have : S.data.toList ≠ [] := by
      intro e
      have h0 : S.data.toList.length = S.size := Array.length_toList
      rw [e] at h0
      simp at h0
      omega
    simpa using this
  refine st_step ⟨mp, m, S, false, one, noB, P, noB⟩ rfl xA hw r0_is (r0_run _ rfl (enR S) rfl) hA hR (fun a5 w5 h5 hR5 => ?_)
  unfold rightO at hQ
  rw [hne] at hQ
  simp only [cond_false] at hQ
  cases h1 : stg m 2097152 [32] (enR S) with
  | some p =>
    have hpp := (stg_pos h1).1
    simp only [h1, orO, Option.getD_some] at h5 hQ
    refine st_step ⟨mp, m, one, false, p.2, p.1, P, noB⟩ rfl (xB p hpp) hw w1_is (w1_run _) h5 hR5 (fun a6 w6 h6 hR6 => ?_)
    exact st_last ⟨mp, m, one, false, p.2, p.1, P, noB⟩ rfl (xB p hpp) hw w2_is (w2_run _) h6 hR6 hQ
  | none =>
    simp only [h1, orO, Option.getD_none] at h5 hQ
    refine st_step ⟨mp, m, S, false, one, noB, P, noB⟩ rfl xA hw r1_is (r1_run _ rfl (enR S) rfl) h5 hR5 (fun a6 w6 h6 hR6 => ?_)
    cases h2 : stg m 4194304 [46] (enR S) with
    | some p =>
      have hpp := (stg_pos h2).1
      simp only [h2, orO, Option.getD_some] at h6 hQ
      exact st_last ⟨mp, m, one, false, p.2, p.1, P, noB⟩ rfl (xB p hpp) hw w2_is (w2_run _) h6 hR6 hQ
    | none =>
      simp only [h2, orO, Option.getD_none] at h6 hQ
      exact st_last ⟨mp, m, S, false, one, noB, P, noB⟩ rfl xA hw r2_is (r2_run _ rfl (enR S) rfl) h6 hR6 hQ
end Go.Proofs.YtonmnpmklkbioaaDoor.Sy
/- The walk of Encode's statements 1 to 12. -/
namespace Go.Proofs.YtonmnpmklkbioaaDoor.Sy
open Go.RowKit Go.Proofs.YtonmnpmklkbioaaDoorW.PrintWords
set_option linter.unusedVariables false
set_option linter.unusedSimpArgs false
def t1e : DS As Unit := (.br (.meq (1)) (.leaf ⟨.ret, [some (.lit (.string (strB []))), some (.atom .mptr), some (.lit (.string (strB [])))], []⟩) (.leaf ⟨.normal, [some (.lit (.string (strB []))), some (.atom .mptr), none], []⟩))
set_option maxRecDepth 1000000 in
theorem t1e_is : (comp0 (rulesS true 602) (e35 1) [(1, (.lit (.string ⟨#[]⟩))), (2, .atom As.mptr)]).map (fun d => norm (fun _ => none) (strip1 [1, 2, 4] d)) = some t1e := by kernel_rfl
def t2e : DS As Unit := (.leaf ⟨.ret, [some (.lit (.string (strB []))), some (.atom .mptr), some (.lit (.string (strB [])))], []⟩)
set_option maxRecDepth 1000000 in
theorem t2e_is : (comp0 (rulesS true 602) (e35 2) [(1, (.lit (.string ⟨#[]⟩))), (2, .atom As.mptr)]).map (fun d => norm (fun _ => none) (strip1 [1, 2, 4] d)) = some t2e := by kernel_rfl
def q9 : DS As Unit := (.leaf ⟨.normal, [some (.atom .kept), some (.atom .mptr), some (.atom .pre), some (.lit (.string (strB [])))], []⟩)
set_option maxRecDepth 1000000 in
theorem q9_is : (comp0 (rulesS true 602) (e35 9) [(1, .atom As.kept), (2, .atom As.mptr), (5, .atom As.pre)]).map (fun d => norm (fun _ => none) (strip1 [1, 2, 5, 15] d)) = some q9 := by kernel_rfl
/-- What the statements ahead of the buffer give: a text, or what is left, what stands ahead, what behind, from where on. -/
inductive Fr where
  | done (t : ByteArray)
  | go (K P U : ByteArray) (i : Int)
def dotO (m : Int) (S : ByteArray) : Option ByteArray :=
  bif hasB m 33554432 then
    bif S.toList == [46] then some (strB [239, 188, 142])
    else bif S.toList == [46, 46] then some (strB [239, 188, 142, 239, 188, 142])
    else bif S.toList == [239, 188, 142] then some (strB [226, 128, 155, 239, 188, 142])
    else bif S.toList == [239, 188, 142, 239, 188, 142] then some (strB [226, 128, 155, 239, 188, 142, 226, 128, 155, 239, 188, 142])
    else none
  else none
def endsO (m : Int) (S : ByteArray) : Fr :=
  .go (rightO m (leftO m S).1).1 (leftO m S).2 (rightO m (leftO m S).1).2
    (bif (leftO m S).2.toList == [] && (rightO m (leftO m S).1).2.toList == [] then Lib.idxFunc (hitG 60 m) true (rightO m (leftO m S).1).1 else 0)
def frontO (m : Int) (S : ByteArray) : Fr :=
  bif m == 1 then .done S else bif S.toList == [] then .done noB else
  match dotO m S with
  | some t => .done t
  | none => endsO m S
theorem cut_le {x y : ByteArray} {i j : Nat} (h : y = x.extract i j) (hj : j ≤ x.size) : y.size ≤ x.size := by
  subst h
  rw [ByteArray.size_extract]
  omega
theorem enL_le (S : ByteArray) : (enL S).cut.size ≤ S.size ∧ (enL S).dcut.size ≤ S.size := ⟨cut_le rfl (Nat.le_refl _), cut_le rfl (Nat.le_refl _)⟩
theorem enR_le (S : ByteArray) : (enR S).cut.size ≤ S.size ∧ (enR S).dcut.size ≤ S.size := ⟨cut_le rfl (Nat.sub_le _ _), cut_le rfl (Nat.sub_le _ _)⟩
theorem stg_le {m bit : Int} {cs : List Int} {e : En} {n : Nat} (h : e.cut.size ≤ n ∧ e.dcut.size ≤ n) {p : ByteArray × ByteArray} (hp : stg m bit cs e = some p) : p.1.size ≤ n ∧ p.2.size ≤ 7 := by
  obtain ⟨h1, h2, h3 | h3⟩ := stg_pos hp
  · exact ⟨by rw [h3]; exact h.1, h2⟩
  · exact ⟨by rw [h3]; exact h.2, h2⟩
theorem leftO_le (m : Int) (S : ByteArray) : (leftO m S).1.size ≤ S.size ∧ (leftO m S).2.size ≤ 7 := by
  unfold leftO
  cases h1 : stg m 131072 [32] (enL S) with
  | some p => exact stg_le (enL_le S) h1
  | none =>
    cases h2 : stg m 262144 [46] (enL S) with
    | some p => exact stg_le (enL_le S) h2
    | none =>
      cases h3 : stg m 524288 [126] (enL S) with
      | some p => exact stg_le (enL_le S) h3
      | none =>
        cases h4 : stg m 1048576 [9, 10, 11, 13] (enL S) with
        | some p => exact stg_le (enL_le S) h4
        | none => exact ⟨Nat.le_refl _, Nat.zero_le _⟩
theorem rightO_le (m : Int) (S : ByteArray) : (rightO m S).1.size ≤ S.size ∧ (rightO m S).2.size ≤ 7 := by
  unfold rightO
  cases h0 : S.toList == [] with
  | true => exact ⟨Nat.le_refl _, Nat.zero_le _⟩
  | false =>
    rw [cond_false]
    cases h1 : stg m 2097152 [32] (enR S) with
    | some p => exact stg_le (enR_le S) h1
    | none =>
      cases h2 : stg m 4194304 [46] (enR S) with
      | some p => exact stg_le (enR_le S) h2
      | none =>
        cases h3 : stg m 8388608 [9, 10, 11, 13] (enR S) with
        | some p => exact stg_le (enR_le S) h3
        | none => exact ⟨Nat.le_refl _, Nat.zero_le _⟩
theorem size_nil {S : ByteArray} : (S.toList == []) = decide (S.size = 0) := by
  rw [tl_eq]
  have h0 : S.data.toList.length = S.size := Array.length_toList
  cases h : S.data.toList with
  | nil => rw [h] at h0; simp only [List.length_nil] at h0; simp [← h0]
  | cons x l => rw [h] at h0; simp only [List.length_cons] at h0; simp [← h0]
theorem st_at {n : Nat} {l : List (Nat × Value)} {a : Act} (h : St n l a) {i : Nat} {v : Value} (hv : (i, v) ∈ l) : a.tmps[i]? = some v := h.at_ _ hv
theorem st_sub {n : Nat} {l l' : List (Nat × Value)} {a : Act} (h : St n l a) (hs : ∀ p ∈ l', p ∈ l) : St n l' a := ⟨h.df, h.sz, fun p hp => h.at_ p (hs p hp)⟩
theorem st_eval {n : Nat} {l : List (Nat × Value)} {a : Act} (h : St n l a) {i : Nat} {v : Value} (hv : (i, v) ∈ l) : a.eval (.tmp i) = v := by
  have := st_at h hv
  simp only [Act.eval, Array.getD_eq_getD_getElem?, this, Option.getD_some]
theorem mid_wp {mp : Addr} {m : Int} {K P : ByteArray} (hm : K.size ≤ 140737488351232) {w0 : World} (hw : WorldOk w0 mp m) {rest : Code} {Q : Exit → Act → World → Prop} {a : Act} {w : World}
    (hA : St 602 [(1, .string K), (2, .pointer (some mp)), (5, .string P)] a) (hR : Below w0.heap.size w0 w)
    (hQ : ∀ a' w', St 602 [(1, .string (rightO m K).1), (2, .pointer (some mp)), (5, .string P), (15, .string (rightO m K).2), (23, .int .i64 (bif P.toList == [] && (rightO m K).2.toList == [] then Lib.idxFunc (hitG 60 m) true (rightO m K).1 else 0))] a' → Below w0.heap.size w0 w' → rest.wp Tryd.prog Q a' w') :
    (Code.seq (e35 9) (.seq (e35 10) (.seq (e35 11) (.seq (e35 12) rest)))).wp Tryd.prog Q a w := by
  have ok : ∀ l K P0 T, OkS ⟨mp, m, one, l, one, K, P0, T⟩ := fun l K P0 T => ⟨one_pos, one_le, one_ne⟩
  refine st_step ⟨mp, m, one, true, one, K, P, noB⟩ rfl (ok _ _ _ _) hw (d := q9) (l := [(1, .string K), (2, .pointer (some mp)), (5, .string P), (15, .string noB)]) q9_is ⟨rfl, rfl, rfl⟩ hA hR (fun a1 w1 h1 hR1 => ?_)
  have e10 : e35 10 = .seq (nth (sp (e35 10)) 0) (.cond (.tmp 144) (.seq (f35r 0) (.seq (f35r 1) (f35r 2))) .skip) := by kernel_rfl
  have e12 : e35 12 = .seq (nth (sp (e35 12)) 0) (.cond (.tmp 252) (thn (e35 12)) .skip) := by kernel_rfl
  have last : ∀ (K' U : ByteArray) a1 w1, St 602 [(1, .string K'), (2, .pointer (some mp)), (5, .string P), (15, .string U)] a1 → Below w0.heap.size w0 w1 →
      (∀ a' w', St 602 [(1, .string K'), (2, .pointer (some mp)), (5, .string P), (15, .string U), (23, .int .i64 (bif P.toList == [] && U.toList == [] then Lib.idxFunc (hitG 60 m) true K' else 0))] a' → Below w0.heap.size w0 w' → rest.wp Tryd.prog Q a' w') →
      (Code.seq (e35 11) (.seq (e35 12) rest)).wp Tryd.prog Q a1 w1 := by
    intro K' U a1 w1 h1 hR1 hQ
    refine st_step ⟨mp, m, one, false, one, K', P, U⟩ rfl (ok _ _ _ _) hw (d := t11) (l := [(1, .string K'), (2, .pointer (some mp)), (5, .string P), (15, .string U), (23, .int .i64 0)]) t11_is ⟨rfl, rfl, rfl⟩ h1 hR1 (fun a2 w2 h2 hR2 => ?_)
    rw [e12]
    refine wp_seq ?_
    have hrun : (r79.run (Cs.B ⟨mp, m, one, false, one, K', P, U⟩)).x = .normal ∧ (r79.run (Cs.B ⟨mp, m, one, false, one, K', P, U⟩)).tr = [] ∧ vals (Cs.V ⟨mp, m, one, false, one, K', P, U⟩) [1, 2, 5, 15, 23, 252] (r79.run (Cs.B ⟨mp, m, one, false, one, K', P, U⟩)).es = [(1, .string K'), (2, .pointer (some mp)), (5, .string P), (15, .string U), (23, .int .i64 0), (252, .bool (P.toList == [] && U.toList == []))] := by
      unfold r79
      simp only [DS.run, Cs.B]
      cases P.toList == [] <;> exact ⟨rfl, rfl, rfl⟩
    refine st_step ⟨mp, m, one, false, one, K', P, U⟩ rfl (ok _ _ _ _) hw (d := r79) r79_is hrun h2 hR2 (fun a3 w3 h3 hR3 => ?_)
    cases hb : (P.toList == [] && U.toList == []) with
    | true =>
      rw [hb] at h3 hQ
      refine wp_cond_true (st_eval h3 (by simp)) ?_
      refine st_last ⟨mp, m, one, false, one, K', P, U⟩ rfl (ok _ _ _ _) hw (d := r80) (l := [(1, .string K'), (2, .pointer (some mp)), (5, .string P), (15, .string U), (23, .int .i64 (Lib.idxFunc (hitG 60 m) true K'))]) r80_is ⟨rfl, rfl, rfl⟩ (st_sub h3 (by simp [E.val, Cs.V])) hR3 (fun a4 w4 h4 hR4 => ?_)
      exact hQ a4 w4 h4 hR4
    | false =>
      rw [hb] at h3 hQ
      refine wp_cond_false (st_eval h3 (by simp)) ?_
      refine wp_skip ?_
      exact hQ a3 w3 (st_sub h3 (by simp)) hR3
  rw [e10]
  refine wp_seq ?_
  refine st_step ⟨mp, m, one, false, one, K, P, noB⟩ rfl (ok _ _ _ _) hw (d := r50) (l := [(1, .string K), (2, .pointer (some mp)), (5, .string P), (15, .string noB), (144, .bool (!(K.toList == [])))]) r50_is ⟨rfl, rfl, rfl⟩ h1 hR1 (fun a2 w2 h2 hR2 => ?_)
  cases hk : (K.toList == []) with
  | true =>
    rw [hk] at h2
    refine wp_cond_false (st_eval h2 (by simp)) ?_
    refine wp_skip ?_
    have hr : rightO m K = (K, noB) := by unfold rightO; rw [hk]; rfl
    rw [hr] at hQ
    exact last K noB a2 w2 (st_sub h2 (by simp)) hR2 hQ
  | false =>
    rw [hk] at h2
    refine wp_cond_true (st_eval h2 (by simp)) ?_
    have hp : 0 < K.size := by
      rw [size_nil] at hk
      exact Nat.pos_of_ne_zero (of_decide_eq_false hk)
    exact right_wp hp hm hw (st_sub h2 (by simp)) hR2 (fun a' w' h' hR' => last _ _ a' w' h' hR' hQ)
theorem front_wp {mp : Addr} {m : Int} {S : ByteArray} (hm : S.size ≤ 140737488351232) {w0 : World} (hw : WorldOk w0 mp m) {rest : Code} {Q : Exit → Act → World → Prop} {a : Act} {w : World}
    (hA : St 602 [(1, .string S), (2, .pointer (some mp))] a) (hR : Below w0.heap.size w0 w)
    (hret : ∀ t, frontO m S = .done t → ∀ a' w', St 602 [(4, .string t)] a' → Below w0.heap.size w0 w' → Q .ret a' w')
    (hgo : ∀ K P U i, frontO m S = .go K P U i → ∀ a' w', St 602 [(1, .string K), (2, .pointer (some mp)), (5, .string P), (15, .string U), (23, .int .i64 i)] a' → Below w0.heap.size w0 w' → rest.wp Tryd.prog Q a' w') :
    (Code.seq (e35 1) (.seq (e35 2) (.seq (e35 3) (.seq (e35 4) (.seq (e35 5) (.seq (e35 6) (.seq (e35 7) (.seq (e35 8) (.seq (e35 9) (.seq (e35 10) (.seq (e35 11) (.seq (e35 12) rest)))))))))))).wp Tryd.prog Q a w := by
  unfold frontO at hret hgo
  by_cases hz : S.size = 0
  · have hn : S = noB := by
      obtain ⟨⟨l⟩⟩ := S
      have : l = [] := List.eq_nil_of_length_eq_zero hz
      rw [this]
    subst hn
    have ok : OkS ⟨mp, m, one, true, one, noB, noB, noB⟩ := ⟨one_pos, one_le, one_ne⟩
    have h1r : (t1e.run (Cs.B ⟨mp, m, one, true, one, noB, noB, noB⟩)) = (bif m == 1 then ⟨.ret, [some (.lit (.string noB)), some (.atom .mptr), some (.lit (.string noB))], []⟩ else ⟨.normal, [some (.lit (.string noB)), some (.atom .mptr), none], []⟩) := by
      unfold t1e
      simp only [DS.run, Cs.B]
      cases m == 1 <;> rfl
    refine wp_seq ?_
    refine tree_st (soundS 602 ⟨mp, m, one, true, one, noB, noB, noB⟩ ok w0 hw) t1e_is hA hR (by rw [h1r]; cases m == 1 <;> exact (fun h => by cases h)) (fun a1 w1 h1 hR1 => ?_)
    rw [h1r] at h1 ⊢
    cases hm1 : m == 1 with
    | true =>
      rw [hm1] at h1 hret
      exact hret noB rfl a1 w1 (st_sub h1 (by simp [vals, E.val])) hR1
    | false =>
      rw [hm1] at h1 hret
      refine wp_seq ?_
      refine tree_st (soundS 602 ⟨mp, m, one, true, one, noB, noB, noB⟩ ok w0 hw) t2e_is (a := a1) (w := w1) (st_sub h1 (by simp [vals, E.val])) hR1 (by intro h; cases h) (fun a2 w2 h2 hR2 => ?_)
      exact hret noB (by rw [show (noB.toList == []) = true by rw [size_nil]; rfl]; rfl) a2 w2 (st_sub h2 (by simp [vals, E.val, t2e, DS.run]; rfl)) hR2
  · have ok : OkS ⟨mp, m, S, true, one, noB, noB, noB⟩ := ⟨Nat.pos_of_ne_zero hz, hm, one_ne⟩
    have hsn : (S.toList == []) = false := by rw [size_nil]; simpa using hz
    rw [hsn] at hret hgo
    simp only [cond_false] at hret hgo
    have h1r : (t1.run (Cs.B ⟨mp, m, S, true, one, noB, noB, noB⟩)) = (bif m == 1 then ⟨.ret, [some (.atom .s), some (.atom .mptr), some (.atom .s)], []⟩ else ⟨.normal, [some (.atom .s), some (.atom .mptr), none], []⟩) := by
      unfold t1
      simp only [DS.run, Cs.B]
    refine wp_seq ?_
    refine tree_st (soundS 602 ⟨mp, m, S, true, one, noB, noB, noB⟩ ok w0 hw) t1_is hA hR (by rw [h1r]; cases m == 1 <;> exact (fun h => by cases h)) (fun a1 w1 h1 hR1 => ?_)
    rw [h1r] at h1 ⊢
    cases hm1 : m == 1 with
    | true =>
      rw [hm1] at h1 hret
      exact hret S rfl a1 w1 (st_sub h1 (by simp [vals, E.val, Cs.V])) hR1
    | false =>
      rw [hm1] at h1 hret hgo
      simp only [cond_false] at hret hgo
      have h2r : (t2.run (Cs.B ⟨mp, m, S, true, one, noB, noB, noB⟩)) = ⟨.normal, [some (.atom .s), some (.atom .mptr), none], []⟩ := by
        unfold t2
        simp only [DS.run, Cs.B, hsn]
        rfl
      refine st_step ⟨mp, m, S, true, one, noB, noB, noB⟩ rfl ok hw (l := [(1, .string S), (2, .pointer (some mp))]) t2_is ⟨by rw [h2r], by rw [h2r], by rw [h2r]; rfl⟩ (st_sub h1 (by simp [vals, E.val, Cs.V])) hR1 (fun a2 w2 h2 hR2 => ?_)
      have h3r : (t3.run (Cs.B ⟨mp, m, S, true, one, noB, noB, noB⟩)) = (match dotO m S with
          | some t => ⟨.ret, [some (.atom .s), some (.atom .mptr), some (.lit (.string t))], []⟩
          | none => ⟨.normal, [some (.atom .s), some (.atom .mptr), none], []⟩) := by
        unfold t3 dotO
        simp only [DS.run, Cs.B]
        cases hasB m 33554432 with
        | false => rfl
        | true =>
          simp only [cond_true]
          cases S.toList == [46] with
          | true => rfl
          | false =>
            simp only [cond_false]
            cases S.toList == [46, 46] with
            | true => rfl
            | false =>
              simp only [cond_false]
              cases S.toList == [239, 188, 142] with
              | true => rfl
              | false =>
                simp only [cond_false]
                cases S.toList == [239, 188, 142, 239, 188, 142] with
                | true => rfl
                | false => rfl
      refine wp_seq ?_
      refine tree_st (soundS 602 ⟨mp, m, S, true, one, noB, noB, noB⟩ ok w0 hw) t3_is h2 hR2 (by rw [h3r]; cases dotO m S <;> exact (fun h => by cases h)) (fun a3 w3 h3 hR3 => ?_)
      rw [h3r] at h3 ⊢
      cases hd : dotO m S with
      | some t =>
        rw [hd] at h3 hret
        exact hret t rfl a3 w3 (st_sub h3 (by simp [vals, E.val, Cs.V])) hR3
      | none =>
        rw [hd] at h3 hret hgo
        refine st_step ⟨mp, m, S, true, one, noB, noB, noB⟩ rfl ok hw (d := t4) (l := [(1, .string S), (2, .pointer (some mp)), (5, .string noB)]) t4_is ⟨rfl, rfl, rfl⟩ (st_sub h3 (by simp [vals, E.val, Cs.V])) hR3 (fun a4 w4 h4 hR4 => ?_)
        refine left_wp (by omega) hm hw h4 hR4 (fun a5 w5 h5 hR5 => ?_)
        exact mid_wp (Nat.le_trans (leftO_le m S).1 hm) hw h5 hR5 (hgo _ _ _ _ rfl)
end Go.Proofs.YtonmnpmklkbioaaDoor.Sy
