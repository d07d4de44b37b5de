/- 5 texts of this claim, one behind the other. -/
import Derived.Test.YtonmnpmklkbioaaDoorGd
import Derived.Shelf.Strings.MapAny
import Derived.LoopN
/- Encode's few statements that make memory, step by step. -/
namespace Go.Proofs.YtonmnpmklkbioaaDoor.Sy
open Go.RowKit Go.Proofs.YtonmnpmklkbioaaDoorW.PrintWords
set_option linter.unusedVariables false
set_option linter.unusedSimpArgs false
section
variable {a : Act} {w : World} {next : Act → World → Prop} {Q : Exit → Act → World → Prop} {dst : Option Nat} {ty : TypeId} {pos : String} {af : Array Edge} {gd : Option (Nat × Bool)} {x y z : Operand}
theorem s_box {m : Int} (h1 : a.eval x = .int .u64 m) (h : next (a.put dst (.pointer (some ⟨w.heap.size, 0, none⟩))) (w.alloc (.cells #[.int .u64 m] 43))) : Oper.wp Tryd.prog ⟨dst, .box 43 x, ty, pos, af, gd⟩ a w next Q := by
  unfold Oper.wp execOp
  dsimp only
  rw [h1]
  go_simp
  exact h
theorem s_alloc (h : next (a.put dst (.pointer (some ⟨w.heap.size, 0, none⟩))) (w.alloc (.cells #[.slice none 0 0, .int .i64 0, .int .i8 0] 71))) : Oper.wp Tryd.prog ⟨dst, .alloc 71, ty, pos, af, gd⟩ a w next Q := by
  unfold Oper.wp execOp
  dsimp only
  go_simp
  exact h
theorem s_range {S : ByteArray} (h1 : a.eval x = .string S) (h : next (a.put dst (.pointer (some ⟨w.heap.size, 0, none⟩))) (w.iter S 0)) : Oper.wp Tryd.prog ⟨dst, .range 9 x, ty, pos, af, gd⟩ a w next Q := by
  unfold Oper.wp execOp
  dsimp only
  rw [h1]
  go_simp
  exact h
theorem s_next {p : Nat} {S : ByteArray} {k : Nat} (h1 : a.eval x = .pointer (some ⟨p, 0, none⟩)) (hit : w.heap[p]? = some (.stringIter S k)) (hk : k < S.size) (h : next (a.put dst (.tuple #[.bool true, .int .i64 k, .int .i32 (Utf8.decode S k).1])) (w.iterAt p S (k + (Utf8.decode S k).2))) : Oper.wp Tryd.prog ⟨dst, .next x true, ty, pos, af, gd⟩ a w next Q := by
  have hnx := Lib.run_next_any_at (P := Tryd.prog) w p S k ty hit hk
  unfold Oper.wp execOp
  dsimp only
  rw [h1]
  go_simp
  exact h
theorem s_nextEnd {p : Nat} {S : ByteArray} {k : Nat} (h1 : a.eval x = .pointer (some ⟨p, 0, none⟩)) (hit : w.heap[p]? = some (.stringIter S k)) (hk : ¬ k < S.size) (h : next (a.put dst (.tuple #[.bool false])) w) : Oper.wp Tryd.prog ⟨dst, .next x true, ty, pos, af, gd⟩ a w next Q := by
  have hnx := Lib.run_next_end_at (P := Tryd.prog) w p S k ty hit hk
  unfold Oper.wp execOp
  dsimp only
  rw [h1]
  go_simp
  exact h
theorem s_val {o : Oper} {v : Value} (hr : (execOp a.eval o).run Tryd.prog w = .ok (.value v) w) (h : next (a.put o.dst v) w) : o.wp Tryd.prog a w next Q := by
  unfold Oper.wp
  rw [hr]
  exact h
theorem s_move {v : Value} (h1 : a.eval x = v) (h : next (a.put dst v) w) : Oper.wp Tryd.prog ⟨dst, .move x, ty, pos, af, gd⟩ a w next Q := by
  unfold Oper.wp execOp
  dsimp only
  rw [h1]
  go_simp
  exact h
theorem s_assign {v : Value} (h1 : a.eval x = v) (h : next (a.put dst v) w) : Oper.wp Tryd.prog ⟨dst, .assign x, ty, pos, af, gd⟩ a w next Q := by
  unfold Oper.wp execOp
  dsimp only
  rw [h1]
  go_simp
  exact h
end
theorem St.put {n : Nat} {L : List (Nat × Value)} {a : Act} (h : St n L a) {d : Nat} {v : Value} (hd : d < n) (hL : L.all (fun p => !Nat.beq p.1 d) = true) : St n ((d, v) :: L) (a.put (some d) v) := by
  refine ⟨h.df, ?_, fun p hp => ?_⟩
  · show (a.tmps.setIfInBounds d v).size = n
    rw [Array.size_setIfInBounds]; exact h.sz
  · show (a.tmps.setIfInBounds d v)[p.1]? = some p.2
    rcases List.mem_cons.1 hp with rfl | hp
    · exact Array.getElem?_setIfInBounds_self_of_lt (by rw [h.sz]; exact hd)
    · have h1 := List.all_eq_true.1 hL p hp
      have h2 : ¬ d = p.1 := by
        intro e
        rw [e] at h1
        simp at h1
      rw [Array.getElem?_setIfInBounds_ne h2]
      exact h.at_ p hp
theorem op1 {o : Oper} {ops : Array Oper} {Q : Exit → Act → World → Prop} {l : List Oper} {a : Act} {w : World} (hg : o.guard = none) (h : o.wp Tryd.prog a w (fun a' w' => wpList Tryd.prog ops Q l a' w') Q) : wpList Tryd.prog ops Q (o :: l) a w := by
  unfold wpList
  have hw : Region.wanted o (yielded ops a.tmps) = true := by
    unfold Region.wanted
    rw [hg]
  rw [if_pos hw]
  exact .inl h
theorem op_end {ops : Array Oper} {Q : Exit → Act → World → Prop} {a : Act} {w : World} (h : Q .normal a w) : wpList Tryd.prog ops Q [] a w := h
set_option maxRecDepth 100000 in
theorem e0_wp {m : Int} {S : ByteArray} {w : World} {a : Act} {Q : Exit → Act → World → Prop} (hA : St 602 [(0, .int .u64 m), (1, .string S)] a) (hQ : ∀ a', St 602 [(1, .string S), (2, .pointer (some ⟨w.heap.size, 0, none⟩))] a' → Q .normal a' (w.alloc (.cells #[.int .u64 m] 43))) : (e35 0).wp Tryd.prog Q a w := by
  rw [show e35 0 = .region 0 #[{ dst := some 2, op := Go.Op.box 43 (Go.Operand.tmp 0), type := 0, pos := "encoder.go:296", after := #[], guard := none }, { dst := some 4, op := Go.Op.assign (Go.Operand.const (Go.Value.string { data := #[] })), type := 9, pos := "encoder.go:296", after := #[], guard := none }] false by kernel_rfl]
  refine wp_region_list (op1 rfl (s_box (st_eval (v := .int .u64 m) hA (by simp)) (op1 rfl (s_assign rfl (op_end ?_)))))
  exact hQ _ (st_sub ((hA.put (by decide) (by rfl)).put (by decide) (by rfl)) (by simp))
set_option maxRecDepth 100000 in
theorem e13_wp {i : Int} {K : ByteArray} {L : List (Nat × Value)} {w : World} {a : Act} {rest : Code} {Q : Exit → Act → World → Prop} (hA : St 602 ((1, .string K) :: (23, .int .i64 i) :: L) a) (hL : L.all (fun p => !Nat.beq p.1 256 && !Nat.beq p.1 257) = true)
    (hret : i = -1 → ∀ a', St 602 [(4, .string K)] a' → Q .ret a' w) (hgo : i ≠ -1 → ∀ a', St 602 ((1, .string K) :: (23, .int .i64 i) :: L) a' → rest.wp Tryd.prog Q a' w) : (Code.seq (e35 13) rest).wp Tryd.prog Q a w := by
  rw [show e35 13 = .seq (.region 81 #[{ dst := some 256, op := Go.Op.move (Go.Operand.tmp 23), type := 3, pos := "encoder.go:512", after := #[], guard := none }, { dst := some 257, op := Go.Op.binOp Go.BinOp.eql 3 (Go.Operand.tmp 256) (Go.Operand.const (Go.Value.int Go.IntKind.i64 (-1))) 3, type := 4, pos := "encoder.go:512", after := #[{ on := 0, ground := Go.Ground.data }], guard := none }] false) (.cond (.tmp 257) (.seq (.region 82 #[{ dst := some 258, op := Go.Op.move (Go.Operand.tmp 1), type := 9, pos := "encoder.go:513", after := #[], guard := none }, { dst := some 4, op := Go.Op.assign (Go.Operand.tmp 258), type := 9, pos := "encoder.go:513", after := #[{ on := 0, ground := Go.Ground.data }, { on := 0, ground := Go.Ground.phase }], guard := none }] false) .ret) .skip) by kernel_rfl]
  have hL1 : ((1, Value.string K) :: (23, Value.int .i64 i) :: L).all (fun p => !Nat.beq p.1 256) = true := by
    rw [List.all_eq_true] at hL ⊢
    intro p hp
    rcases List.mem_cons.1 hp with rfl | hp
    · rfl
    · rcases List.mem_cons.1 hp with rfl | hp
      · rfl
      · have := hL p hp; simp only [Bool.and_eq_true] at this; exact this.1
  have hL2 : ((256, Value.int .i64 i) :: (1, Value.string K) :: (23, Value.int .i64 i) :: L).all (fun p => !Nat.beq p.1 257) = true := by
    rw [List.all_eq_true] at hL ⊢
    intro p hp
    rcases List.mem_cons.1 hp with rfl | hp
    · rfl
    · rcases List.mem_cons.1 hp with rfl | hp
      · rfl
      · rcases List.mem_cons.1 hp with rfl | hp
        · rfl
        · have := hL p hp; simp only [Bool.and_eq_true] at this; exact this.2
  have h1 := hA.put (d := 256) (v := .int .i64 i) (by decide) hL1
  have h2 := h1.put (d := 257) (v := .bool (i == -1)) (by decide) hL2
  refine wp_seq (wp_seq (wp_region_list (op1 rfl (s_move (st_eval (v := .int .i64 i) hA (by simp)) (op1 rfl (s_val (r_eql64 (st_eval (v := .int .i64 i) h1 (by simp)) rfl) (op_end ?_)))))))
  by_cases hi : i = -1
  · refine wp_cond_true (by rw [st_eval h2 (List.mem_cons_self)]; simp [hi]) ?_
    have h3 := (st_sub h2 (l' := [(1, .string K)]) (by simp)).put (d := 258) (v := .string K) (by decide) (by rfl)
    have h4 := h3.put (d := 4) (v := .string K) (by decide) (by rfl)
    refine wp_seq (wp_region_list (op1 rfl (s_move (st_eval (v := .string K) h2 (by simp)) (op1 rfl (s_assign (st_eval (v := .string K) h3 (by simp)) (op_end (wp_ret ?_)))))))
    exact hret hi _ (st_sub h4 (by simp))
  · refine wp_cond_false (by rw [st_eval h2 (List.mem_cons_self)]; simp [hi]) (wp_skip ?_)
    exact hgo hi _ (st_sub h2 (fun p hp => List.mem_cons_of_mem _ (List.mem_cons_of_mem _ hp)))
set_option maxRecDepth 100000 in
theorem e14_wp {L : List (Nat × Value)} {w : World} {a : Act} {Q : Exit → Act → World → Prop} (hA : St 602 L a) (hL : L.all (fun p => !Nat.beq p.1 24) = true) (hQ : ∀ a', St 602 ((24, .pointer (some ⟨w.heap.size, 0, none⟩)) :: L) a' → Q .normal a' (w.alloc (.cells #[.slice none 0 0, .int .i64 0, .int .i8 0] 71))) : (e35 14).wp Tryd.prog Q a w := by
  rw [show e35 14 = .region 83 #[{ dst := some 24, op := Go.Op.alloc 71, type := 0, pos := "encoder.go:516", after := #[], guard := none }] false by kernel_rfl]
  refine wp_region_list (op1 rfl (s_alloc (op_end ?_)))
  exact hQ _ (hA.put (by decide) hL)
set_option maxRecDepth 100000 in
theorem r88_wp {S : ByteArray} {L : List (Nat × Value)} {w : World} {a : Act} {Q : Exit → Act → World → Prop} (hA : St 602 ((1, .string S) :: L) a) (hL : ((1, Value.string S) :: L).all (fun p => !Nat.beq p.1 277) = true) (hL2 : ((277, Value.string S) :: (1, Value.string S) :: L).all (fun p => !Nat.beq p.1 278) = true) (hQ : ∀ a', St 602 ((278, .pointer (some ⟨w.heap.size, 0, none⟩)) :: (1, .string S) :: L) a' → Q .normal a' (w.iter S 0)) : (nth (sp (e35 19)) 0).wp Tryd.prog Q a w := by
  rw [show nth (sp (e35 19)) 0 = .region 88 #[{ dst := some 277, op := Go.Op.move (Go.Operand.tmp 1), type := 9, pos := "encoder.go:523", after := #[], guard := none }, { dst := some 278, op := Go.Op.range 9 (Go.Operand.tmp 277), type := 0, pos := "encoder.go:523", after := #[{ on := 0, ground := Go.Ground.data }], guard := none }] false by kernel_rfl]
  have h1 := hA.put (d := 277) (v := .string S) (by decide) hL
  refine wp_region_list (op1 rfl (s_move (st_eval (v := .string S) hA (by simp)) (op1 rfl (s_range (st_eval (v := .string S) h1 (by simp)) (op_end ?_)))))
  exact hQ _ (st_sub (h1.put (by decide) hL2) (by intro p hp; rcases List.mem_cons.1 hp with rfl | hp; exact List.mem_cons_self; exact List.mem_cons_of_mem _ (List.mem_cons_of_mem _ hp)))
set_option maxRecDepth 100000 in
theorem r89_wp {S : ByteArray} {p k : Nat} {L : List (Nat × Value)} {w : World} {a : Act} {Q : Exit → Act → World → Prop} (hA : St 602 ((278, .pointer (some ⟨p, 0, none⟩)) :: L) a) (hL : L.all (fun p => !Nat.beq p.1 279 && !Nat.beq p.1 280) = true) (hit : w.heap[p]? = some (.stringIter S k))
    (hgo : k < S.size → ∀ a', St 602 ((280, .bool true) :: (279, .tuple #[.bool true, .int .i64 k, .int .i32 (Utf8.decode S k).1]) :: (278, .pointer (some ⟨p, 0, none⟩)) :: L) a' → Q .normal a' (w.iterAt p S (k + (Utf8.decode S k).2)))
    (hend : ¬ k < S.size → ∀ a', St 602 ((280, .bool false) :: (278, .pointer (some ⟨p, 0, none⟩)) :: L) a' → Q .normal a' w) : (nth (sp lp35) 0).wp Tryd.prog Q a w := by
  rw [show nth (sp lp35) 0 = .region 89 #[{ dst := some 279, op := Go.Op.next (Go.Operand.tmp 278) true, type := 0, pos := "encoder.go:523", after := #[], guard := none }, { dst := some 280, op := Go.Op.extract (Go.Operand.tmp 279) 0, type := 4, pos := "encoder.go:523", after := #[{ on := 0, ground := Go.Ground.data }], guard := none }] false by kernel_rfl]
  have hL1 : ((278, Value.pointer (some ⟨p, 0, none⟩)) :: L).all (fun p => !Nat.beq p.1 279) = true := by
    rw [List.all_eq_true] at hL ⊢
    intro p hp
    rcases List.mem_cons.1 hp with rfl | hp
    · rfl
    · have := hL p hp; simp only [Bool.and_eq_true] at this; exact this.1
  have hL2 : ∀ v, ((279, v) :: (278, Value.pointer (some ⟨p, 0, none⟩)) :: L).all (fun p => !Nat.beq p.1 280) = true := by
    intro v
    rw [List.all_eq_true] at hL ⊢
    intro p hp
    rcases List.mem_cons.1 hp with rfl | hp
    · rfl
    · rcases List.mem_cons.1 hp with rfl | hp
      · rfl
      · have := hL p hp; simp only [Bool.and_eq_true] at this; exact this.2
  by_cases hk : k < S.size
  · have h1 := hA.put (d := 279) (v := .tuple #[.bool true, .int .i64 k, .int .i32 (Utf8.decode S k).1]) (by decide) hL1
    refine wp_region_list (op1 rfl (s_next (st_eval (v := .pointer (some ⟨p, 0, none⟩)) hA (by simp)) hit hk (op1 rfl (s_val (r_extract (st_eval (v := .tuple #[.bool true, .int .i64 k, .int .i32 (Utf8.decode S k).1]) h1 (by simp)) rfl) (op_end ?_)))))
    exact hgo hk _ (h1.put (by decide) (hL2 _))
  · have h1 := hA.put (d := 279) (v := .tuple #[.bool false]) (by decide) hL1
    refine wp_region_list (op1 rfl (s_nextEnd (st_eval (v := .pointer (some ⟨p, 0, none⟩)) hA (by simp)) hit hk (op1 rfl (s_val (r_extract (st_eval (v := .tuple #[.bool false]) h1 (by simp)) rfl) (op_end ?_)))))
    exact hend hk _ (st_sub (h1.put (by decide) (hL2 _)) (by intro p hp; rcases List.mem_cons.1 hp with rfl | hp; exact List.mem_cons_self; exact List.mem_cons_of_mem _ (List.mem_cons_of_mem _ hp)))
theorem enter65 (args : Array Value) (w : World) : (callFunc 65 args).run Tryd.prog w = .ok (.enter 65 args) w := by kernel_rfl
set_option maxRecDepth 100000 in
theorem e21_wp {B b : Nat} {l : List UInt8} {L : List (Nat × Value)} {w : World} {a : Act} {Q : Exit → Act → World → Prop} (hA : St 602 ((24, .pointer (some ⟨b, 0, none⟩)) :: L) a) (hI : Lib.IsBuffer 71 5 B b (Lib.byteCells l) w) (hQ : ∀ a' n, St 602 [(4, .string ⟨l.toArray⟩)] a' → Q .ret a' (w.drewN n)) : (Code.seq (e35 21) .ret).wp Tryd.prog Q a w := by
  rw [show e35 21 = .region 245 #[{ dst := some 601, op := Go.Op.call { callee := Go.Callee.value (Go.Operand.func 65), args := #[Go.Operand.tmp 24], argTypes := #[71] }, type := 9, pos := "encoder.go:758", after := #[], guard := none }, { dst := some 4, op := Go.Op.assign (Go.Operand.tmp 601), type := 9, pos := "encoder.go:758", after := #[{ on := 0, ground := Go.Ground.data }, { on := 0, ground := Go.Ground.chain }, { on := 0, ground := Go.Ground.phase }], guard := none }] false by kernel_rfl]
  refine wp_seq (wp_region_list (op1 rfl (s_call1 (T := fun w' => ∃ n, w' = w.drewN n) enter65 (st_eval (v := .pointer (some ⟨b, 0, none⟩)) hA (by simp)) (Any.Buffer_String Laid.L_n182 B b l w hI) (fun w' hw' => ?_))))
  obtain ⟨n, rfl⟩ := hw'
  have h1 := (st_sub hA (l' := []) (by simp)).put (d := 601) (v := .string ⟨l.toArray⟩) (by decide) (by rfl)
  refine op1 rfl (s_assign (st_eval (v := .string ⟨l.toArray⟩) h1 (by simp)) (op_end (wp_ret ?_)))
  exact hQ _ n (st_sub (h1.put (d := 4) (v := .string ⟨l.toArray⟩) (by decide) (by rfl)) (by simp))
end Go.Proofs.YtonmnpmklkbioaaDoor.Sy
/- What Encode writes for one unit of a string, and that its loop's body does so. -/
namespace Go.Proofs.YtonmnpmklkbioaaDoor.Sy
open Go.RowKit Go.Proofs.YtonmnpmklkbioaaDoorW.PrintWords
set_option linter.unusedVariables false
set_option linter.unusedSimpArgs false
theorem get_eq {S : ByteArray} {p : Nat} (h : p < S.size) : S.get! p = S.data[p]'h := by
  show S.data[p]! = _
  exact getElem!_pos S.data p h
theorem sub3_eq {S : ByteArray} {p : Nat} (h : p + 3 ≤ S.size) : (S.extract p (p + 3)).toList = [S.get! p, S.get! (p + 1), S.get! (p + 2)] := by
  rw [tl_eq, ByteArray.data_extract]
  have hs : S.data.size = S.size := rfl
  rw [get_eq (by omega), get_eq (by omega), get_eq (by omega)]
  apply List.ext_getElem
  · simp; omega
  · intro i h1 h2
    simp only [List.length_cons, List.length_nil] at h2
    rw [Array.getElem_toList, Array.getElem_extract]
    match i, h2 with
    | 0, _ => rfl
    | 1, _ => rfl
    | 2, _ => rfl
theorem dec_err {S : ByteArray} {p : Nat} (hp : p < S.size) (h : (Utf8.decode S p).1 = 65533) : (Utf8.decode S p).2 = 1 ∨ ((Utf8.decode S p).2 = 3 ∧ p + 3 ≤ S.size ∧ (S.get! p).toNat = 239 ∧ (S.get! (p + 1)).toNat = 191 ∧ (S.get! (p + 2)).toNat = 189) := by
  have b1 := (S.get! (p + 1)).toNat_lt
  have b2 := (S.get! (p + 2)).toNat_lt
  have b3 := (S.get! (p + 3)).toNat_lt
  unfold Utf8.decode at h ⊢
  simp only [Nat.add_zero] at h ⊢
  split at h
  · rename_i h0; simp only at h; omega
  · rename_i h0
    rw [if_neg h0]
    split at h
    · rename_i h1
      rw [if_pos h1]
      split at h
      · rename_i h2; simp only at h; omega
      · rename_i h2; rw [if_neg h2]; exact .inl rfl
    · rename_i h1
      rw [if_neg h1]
      split at h
      · rename_i h2
        rw [if_pos h2]
        split at h
        · rename_i h3
          rw [if_pos h3]
          simp only at h
          simp only [Bool.and_eq_true, beq_iff_eq, decide_eq_true_eq] at h2
          right
          refine ⟨rfl, by omega, by omega, by omega, by omega⟩
        · rename_i h3; rw [if_neg h3]; exact .inl rfl
      · rename_i h2
        rw [if_neg h2]
        split at h
        · rename_i h3
          rw [if_pos h3]
          split at h
          · rename_i h4
            simp only at h
            simp only [Bool.and_eq_true, decide_eq_true_eq] at h4
            omega
          · rename_i h4; rw [if_neg h4]; exact .inl rfl
        · rename_i h3; rw [if_neg h3]; exact .inl rfl
theorem dec_fffd {S : ByteArray} {p : Nat} (hp : p + 3 ≤ S.size) (h : (S.extract p (p + 3)).toList = [239, 191, 189]) : Utf8.decode S p = (65533, 3) := by
  rw [sub3_eq hp] at h
  simp only [List.cons.injEq, and_true] at h
  unfold Utf8.decode
  simp only [Nat.add_zero, h.1, h.2.1, h.2.2]
  have e1 : p + 1 < S.size := by omega
  have e2 : p + 2 < S.size := by omega
  simp [e1, e2, Utf8.valid]
theorem dec_one {S : ByteArray} {p : Nat} (hp : p < S.size) : S.extract p (p + 1) = ⟨#[S.get! p]⟩ := by
  have h : (S.extract p (p + 1)).data = #[S.get! p] := by
    rw [ByteArray.data_extract, get_eq hp]
    have hs : S.data.size = S.size := rfl
    apply Array.ext
    · simp; omega
    · intro i h1 h2
      simp only [List.size_toArray, List.length_cons, List.length_nil] at h2
      rw [Array.getElem_extract]
      have : i = 0 := by omega
      subst this
      rfl
  cases hx : S.extract p (p + 1) with
  | mk d => rw [hx] at h; cases h; rfl
def Bmr (m r : Int) : Ab → Bool
  | .has b => hasB m b
  | .cmp o c => o.on r c
  | _ => false
theorem B_eq (x : Cb) : x.B = Bmr x.m x.r := by funext t; cases t <;> rfl
def isRn : Ef → Bool
  | .rn _ => true
  | _ => false
def ebr (r : Int) : Ef → List UInt8
  | .rn y => Lib.encodeRune (y.int r)
  | _ => []
/-- What is written for a rune that is no error. -/
def genO (m r : Int) : List UInt8 := ((runS (Bmr m r) h0).tr.map (ebr r)).flatten
/-- What is written for the unit at p. -/
def unitO (m : Int) (S : ByteArray) (p : Nat) : List UInt8 :=
  bif Nat.beq (Utf8.decode S p).1 65533 then
    bif Nat.beq (Utf8.decode S p).2 1 then (bif hasB m 16777216 then (quoteByte (S.get! p)).data.toList else [S.get! p])
    else (bif hasB m 16777216 then Lib.encodeRune 65533 else (S.extract p (p + (Utf8.decode S p).2)).data.toList)
  else genO m ((Utf8.decode S p).1 : Int)
def trOk : DS Ab Ef → Bool
  | .leaf ⟨.normal, _, tr⟩ => tr.all isRn && Nat.ble tr.length 2
  | .leaf ⟨.exit 6, _, tr⟩ => tr.all isRn && Nat.ble tr.length 2
  | .leaf _ => false
  | .br _ a b => trOk a && trOk b
theorem h0_ok : h0.all trOk = true := by kernel_rfl
theorem trOk_run (B : Ab → Bool) : ∀ d : DS Ab Ef, trOk d = true → ((d.run B).x = .normal ∨ (d.run B).x = .exit 6) ∧ (d.run B).tr.all isRn = true ∧ (d.run B).tr.length ≤ 2
  | .leaf ⟨.normal, es, tr⟩, h => by
    simp only [trOk, Bool.and_eq_true] at h
    exact ⟨.inl rfl, h.1, Nat.le_of_ble_eq_true h.2⟩
  | .leaf ⟨.exit n, es, tr⟩, h => by
    unfold trOk at h
    split at h
    · rename_i heq; cases heq
    · rename_i heq
      cases heq
      simp only [Bool.and_eq_true] at h
      exact ⟨.inr rfl, h.1, Nat.le_of_ble_eq_true h.2⟩
    · cases h
    · rename_i heq; cases heq
  | .leaf ⟨.ret, es, tr⟩, h => by simp [trOk] at h
  | .leaf ⟨.bad, es, tr⟩, h => by simp [trOk] at h
  | .br t a b, h => by
    simp only [trOk, Bool.and_eq_true] at h
    show ((bif B t then a.run B else b.run B).x = .normal ∨ _) ∧ _
    simp only [DS.run]
    cases B t with
    | true => exact trOk_run B a h.1
    | false => exact trOk_run B b h.2
theorem trOk_runS (B : Ab → Bool) : ∀ ds : List (DS Ab Ef), ds.all trOk = true → ((runS B ds).x = .normal ∨ (runS B ds).x = .exit 6) ∧ (runS B ds).tr.all isRn = true ∧ (runS B ds).tr.length ≤ 2 * ds.length
  | [], _ => ⟨.inl rfl, rfl, Nat.le_refl _⟩
  | [d], h => by
    simp only [List.all_cons, List.all_nil, Bool.and_true] at h
    have := trOk_run B d h
    exact ⟨this.1, this.2.1, this.2.2⟩
  | d :: d2 :: l, h => by
    rw [List.all_cons, Bool.and_eq_true] at h
    have h1 := trOk_run B d h.1
    have h2 := trOk_runS B (d2 :: l) h.2
    obtain ⟨o, ho⟩ : ∃ o, d.run B = o := ⟨_, rfl⟩
    rw [ho] at h1
    obtain ⟨x, es, tr⟩ := o
    cases x with
    | normal =>
      simp only [runS, ho]
      refine ⟨h2.1, ?_, ?_⟩
      · rw [List.all_append, Bool.and_eq_true]
        exact ⟨h1.2.1, h2.2.1⟩
      · have := h1.2.2
        have := h2.2.2
        rw [List.length_append, List.length_cons]
        simp only at *
        omega
    | exit n =>
      simp only [runS, ho]
      exact ⟨h1.1, h1.2.1, by have := h1.2.2; simp only [List.length_cons] at *; omega⟩
    | ret => rcases h1.1 with h | h <;> cases h
    | bad => rcases h1.1 with h | h <;> cases h
theorem bytes_rn (x : Cb) : ∀ tr : List Ef, tr.all isRn = true → x.bytes tr = (tr.map (ebr x.r)).flatten
  | [], _ => rfl
  | e :: tr, h => by
    rw [List.all_cons, Bool.and_eq_true] at h
    have ih := bytes_rn x tr h.2
    cases e with
    | rn y =>
      have : x.bytes (.rn y :: tr) = Lib.encodeRune (y.int x.r) ++ x.bytes tr := by simp [Cb.bytes, Cb.eb]
      rw [this, ih]
      rfl
    | gr => cases h.1
    | st s => cases h.1
    | qt => cases h.1
abbrev keptL (mp : Addr) (b it : Nat) (S U : ByteArray) : List (Nat × Value) := [(1, .string S), (2, .pointer (some mp)), (15, .string U), (24, .pointer (some ⟨b, 0, none⟩)), (278, .pointer (some ⟨it, 0, none⟩))]
theorem via (x : Cb) (hx : OkB x) (hfr : x.fl.fresh = false) {ds : List (DS Ab Ef)} {known : Ab → Option Bool} (hch : (top (rulesB x.fl 602) body35 envL).map (fun Ds => (Ds.all (allKeep envL) && !Ds.isEmpty, Ds.map (fun d => norm known (strip [] d)))) = some (true, ds)) (hk : ∀ t v, known t = some v → x.B t = v)
    (hrun : (runS x.B ds).x = .normal ∨ (runS x.B ds).x = .exit 6) {out : List UInt8} (hby : x.bytes (runS x.B ds).tr = out) {wB : World} (hw : WorldOk wB x.mp x.m) (hB : wB.heap.size ≤ x.b) {acc : List UInt8} (hacc : acc.length ≤ 35184372088832) {pn : Nat} {a : Act} {w : World} {Q : Exit → Act → World → Prop}
    (hA : St 602 (envL.map fun p => (p.1, p.2.val x.V)) a) (hlow : Below wB.heap.size wB w) (hI : Lib.IsBuffer 71 5 wB.heap.size x.b (Lib.byteCells acc) w) (hit : x.it ≠ x.b ∧ w.heap[x.it]? = some (.stringIter x.S pn))
    (hQ : ∀ a' w' e, (e = .normal ∨ e = .exit 6) → St 602 (keptL x.mp x.b x.it x.S x.U) a' → Below wB.heap.size wB w' → Lib.IsBuffer 71 5 wB.heap.size x.b (Lib.byteCells (acc ++ out)) w' → w'.heap[x.it]? = some (.stringIter x.S pn) → Q e a' w') : body35.wp Tryd.prog Q a w := by
  have hR : Rw x wB acc (some pn) [] w := ⟨hlow, by rw [if_neg (by rw [hfr]; simp)]; simpa [Cb.bytes] using hI, fun p hp => by cases hp; exact hit⟩
  refine chain_wp (soundB 602 x hx wB hw acc hacc (some pn) (fun h => by rw [hfr] at h; cases h) hB) hch hk (by rcases hrun with h | h <;> (rw [h]; intro e; cases e)) hA hR (fun a' w' hF hR' => ?_)
  have hbuf := hR'.buf
  rw [if_neg (by rw [hfr]; simp), hby] at hbuf
  refine hQ a' w' _ ?_ (hF.to_st ?_) hR'.low hbuf (hR'.it pn rfl).2
  · rcases hrun with h | h <;> rw [h]
    · exact .inl rfl
    · exact .inr rfl
  · intro p hp
    simp only [List.mem_cons, List.not_mem_nil, or_false] at hp
    rcases hp with rfl | rfl | rfl | rfl | rfl <;> rfl
end Go.Proofs.YtonmnpmklkbioaaDoor.Sy
/- The body of Encode's loop: what it writes. -/
namespace Go.Proofs.YtonmnpmklkbioaaDoor.Sy
open Go.RowKit Go.Proofs.YtonmnpmklkbioaaDoorW.PrintWords
set_option linter.unusedVariables false
set_option linter.unusedSimpArgs false
theorem knF_ok (x : Cb) (hr : x.r = 65533) : ∀ t v, knF t = some v → x.B t = v := by
  intro t v h
  cases t <;> simp [knF] at h
  subst h
  show Cm.on x.r _ _ = _
  rw [hr]
theorem kn0_ok (x : Cb) (hr : x.r ≠ 65533) : ∀ t v, kn0 t = some v → x.B t = v := by
  intro t v h
  unfold kn0 at h
  split at h
  · cases h
    show (x.r == 65533) = false
    simpa using hr
  · cases h
theorem unit_wp {mp : Addr} {m : Int} {b it : Nat} {S U : ByteArray} {p : Nat} {wB : World} (hw : WorldOk wB mp m) (hB : wB.heap.size ≤ b) (hS : S.size ≤ 17592186044416) (hU : U.size ≤ 7) (hp : p < S.size) {acc : List UInt8} (hacc : acc.length ≤ 35184372088832) {pn : Nat} {a : Act} {w : World} {Q : Exit → Act → World → Prop}
    (hA : St 602 [(1, .string S), (2, .pointer (some mp)), (15, .string U), (24, .pointer (some ⟨b, 0, none⟩)), (25, .int .i64 (p : Int)), (26, .int .i32 ((Utf8.decode S p).1 : Int)), (278, .pointer (some ⟨it, 0, none⟩))] a)
    (hlow : Below wB.heap.size wB w) (hI : Lib.IsBuffer 71 5 wB.heap.size b (Lib.byteCells acc) w) (hit : it ≠ b ∧ w.heap[it]? = some (.stringIter S pn))
    (hQ : ∀ a' w' e, (e = .normal ∨ e = .exit 6) → St 602 (keptL mp b it S U) a' → Below wB.heap.size wB w' → Lib.IsBuffer 71 5 wB.heap.size b (Lib.byteCells (acc ++ unitO m S p)) w' → w'.heap[it]? = some (.stringIter S pn) → Q e a' w') : body35.wp Tryd.prog Q a w := by
  have hd : Lib.decodeGo (S.extract p S.size) = Utf8.decode S p := Lib.decodeGo_extract S p hp
  obtain ⟨d, hdd⟩ : ∃ d, Utf8.decode S p = d := ⟨_, rfl⟩
  have hle := decode_le S p
  have herr := dec_err hp
  unfold unitO at hQ
  rw [hdd] at hd hA hle herr hQ
  let mk : Fb → Cb := fun fl => ⟨mp, m, b, it, (d.1 : Int), noB, noB, U, S, 0, p, S.get! p, fl⟩
  have hxd : ∀ fl, (mk fl).d = d := fun fl => hd
  have ok : ∀ near b3 bad, near = decide (S.size < p + 3) → (near = false → b3 = !((S.extract p (p + 3)).toList == [239, 191, 189])) → (bad = true → d.2 = 1) → OkB (mk ⟨false, near, b3, bad, false⟩) := by
    intro near b3 bad h1 h2 h3
    refine ⟨Nat.zero_le _, Nat.zero_le _, Nat.le_trans hU (by decide), hS, rfl, fun _ => ⟨Int.le_refl _, Int.le_refl _⟩, Nat.le_of_lt hp, h1, h2, ?_, (fun h => by cases h), ?_⟩
    · intro hb
      show S.extract p (p + (mk ⟨false, near, b3, bad, false⟩).d.2) = _
      rw [hxd, h3 hb]
      exact dec_one hp
    · show -2147483648 ≤ (d.1 : Int) ∧ (d.1 : Int) ≤ 2147483647
      omega
  by_cases hr : d.1 = 65533
  · have hr1 : Nat.beq d.1 65533 = true := by rw [hr]; rfl
    rw [hr1, cond_true] at hQ
    have hri : ∀ fl, (mk fl).r = 65533 := fun fl => by show (d.1 : Int) = 65533; omega
    by_cases h1 : d.2 = 1
    · have hr2 : Nat.beq d.2 1 = true := by rw [h1]; rfl
      rw [hr2, cond_true] at hQ
      have hsub : ∀ fl, ((mk fl).str .subw).data.toList = [S.get! p] := by
        intro fl
        show (S.extract p (p + (mk fl).d.2)).data.toList = _
        rw [hxd, h1, dec_one hp]
      by_cases hn : S.size < p + 3
      · refine via (mk ⟨false, true, false, true, false⟩) (ok true false true (by simpa using hn) (fun h => by cases h) (fun _ => h1)) rfl hA_is (knF_ok _ (hri _)) ?_ ?_ hw hB hacc hA hlow hI hit hQ
        · rw [B_eq]; unfold Go.Proofs.YtonmnpmklkbioaaDoor.Sy.hA; simp only [runS, DS.run, Bmr]; cases hasB m 16777216 <;> exact .inr rfl
        · rw [B_eq]; unfold Go.Proofs.YtonmnpmklkbioaaDoor.Sy.hA; simp only [runS, DS.run, Bmr]; cases hasB m 16777216
          · simpa [Cb.bytes, Cb.eb] using hsub _
          · simp [Cb.bytes, Cb.eb, mk]
      · have hb3 : (S.extract p (p + 3)).toList ≠ [239, 191, 189] := by
          intro e
          have := dec_fffd (by omega) e
          rw [hdd] at this
          rw [this] at h1
          cases h1
        refine via (mk ⟨false, false, true, true, false⟩) (ok false true true (by simpa using hn) (fun _ => by simpa using hb3) (fun _ => h1)) rfl hB_is (knF_ok _ (hri _)) ?_ ?_ hw hB hacc hA hlow hI hit hQ
        · rw [B_eq]; unfold Go.Proofs.YtonmnpmklkbioaaDoor.Sy.hB; simp only [runS, DS.run, Bmr]; cases hasB m 16777216 <;> exact .inr rfl
        · rw [B_eq]; unfold Go.Proofs.YtonmnpmklkbioaaDoor.Sy.hB; simp only [runS, DS.run, Bmr]; cases hasB m 16777216
          · simpa [Cb.bytes, Cb.eb] using hsub _
          · simp [Cb.bytes, Cb.eb, mk]
    · have hr2 : Nat.beq d.2 1 = false := by
        cases h : Nat.beq d.2 1 with
        | false => rfl
        | true => exact absurd (by simpa using h) h1
      rw [hr2, cond_false] at hQ
      obtain ⟨h3, hn, g0, g1, g2⟩ := (herr hr).resolve_left h1
      have hb3 : (S.extract p (p + 3)).toList = [239, 191, 189] := by
        rw [sub3_eq hn]
        have e : ∀ (u : UInt8) (n : Nat), u.toNat = n → n < 256 → u = UInt8.ofNat n := fun u n h _ => by rw [← h]; exact (UInt8.ofNat_toNat).symm
        rw [e _ _ g0 (by decide), e _ _ g1 (by decide), e _ _ g2 (by decide)]
        rfl
      refine via (mk ⟨false, false, false, false, false⟩) (ok false false false (by simp; omega) (fun _ => by rw [hb3]; rfl) (fun h => by cases h)) rfl hC_is (knF_ok _ (hri _)) ?_ ?_ hw hB hacc hA hlow hI hit hQ
      · rw [B_eq]; unfold Go.Proofs.YtonmnpmklkbioaaDoor.Sy.hC; simp only [runS, DS.run, Bmr]; cases hasB m 16777216
        · exact .inr rfl
        · cases hasB m 65536 <;> exact .inl rfl
      · rw [B_eq]; unfold Go.Proofs.YtonmnpmklkbioaaDoor.Sy.hC; simp only [runS, DS.run, Bmr]; cases hasB m 16777216
        · show ((mk _).bytes [Ef.st Sb.subw]) = _
          simp only [Cb.bytes, List.map_cons, List.map_nil, Cb.eb, List.flatten_cons, List.flatten_nil, List.append_nil, cond_false]
          show (S.extract p (p + (mk _).d.2)).data.toList = _
          rw [hxd]
        · have hr3 : (d.1 : Int) = 65533 := by omega
          cases hasB m 65536 <;> simp [Cb.bytes, Cb.eb, RE.int, mk, hr3]
  · have hr1 : Nat.beq d.1 65533 = false := by
      cases h : Nat.beq d.1 65533 with
      | false => rfl
      | true => exact absurd (by simpa using h) hr
    rw [hr1, cond_false] at hQ
    have hri : ∀ fl, (mk fl).r ≠ 65533 := fun fl => by show (d.1 : Int) ≠ 65533; omega
    have hok := trOk_runS (Bmr m (d.1 : Int)) h0 h0_ok
    have hby : ∀ fl, (mk fl).bytes (runS (mk fl).B h0).tr = genO m (d.1 : Int) := by
      intro fl
      rw [B_eq, bytes_rn _ _ hok.2.1]
      rfl
    by_cases hn : S.size < p + 3
    · exact via (mk ⟨false, true, false, false, false⟩) (ok true false false (by simpa using hn) (fun h => by cases h) (fun h => by cases h)) rfl h0_is (kn0_ok _ (hri _)) (by rw [B_eq]; exact hok.1) (hby _) hw hB hacc hA hlow hI hit hQ
    · cases hb : (S.extract p (p + 3)).toList == [239, 191, 189] with
      | false => exact via (mk ⟨false, false, true, false, false⟩) (ok false true false (by simpa using hn) (fun _ => by rw [hb]; rfl) (fun h => by cases h)) rfl h1_is (kn0_ok _ (hri _)) (by rw [B_eq]; exact hok.1) (hby _) hw hB hacc hA hlow hI hit hQ
      | true => exact via (mk ⟨false, false, false, false, false⟩) (ok false false false (by simpa using hn) (fun _ => by rw [hb]; rfl) (fun h => by cases h)) rfl h2_is (kn0_ok _ (hri _)) (by rw [B_eq]; exact hok.1) (hby _) hw hB hacc hA hlow hI hit hQ
end Go.Proofs.YtonmnpmklkbioaaDoor.Sy
/- Encode's loop. -/
namespace Go.Proofs.YtonmnpmklkbioaaDoor.Sy
open Go.RowKit Go.Proofs.YtonmnpmklkbioaaDoorW.PrintWords
set_option linter.unusedVariables false
set_option linter.unusedSimpArgs false
/-- What is written from p on. -/
def loopO (m : Int) (S : ByteArray) : Nat → Nat → List UInt8
  | 0, _ => []
  | f + 1, p => if p < S.size then unitO m S p ++ loopO m S f (p + (Utf8.decode S p).2) else []
theorem genO_le (m r : Int) : (genO m r).length ≤ 160 := by
  have hok := trOk_runS (Bmr m r) h0 h0_ok
  have key : ∀ tr : List Ef, ((tr.map (ebr r)).flatten).length ≤ 4 * tr.length := by
    intro tr
    induction tr with
    | nil => exact Nat.zero_le _
    | cons e tr ih =>
      rw [List.map_cons, List.flatten_cons, List.length_append, List.length_cons]
      have : (ebr r e).length ≤ 4 := by
        cases e with
        | rn y => exact rune_le _
        | _ => exact Nat.zero_le _
      omega
  have h1 := key (runS (Bmr m r) h0).tr
  have h2 := hok.2.2
  have h3 : h0.length = 20 := by decide
  unfold genO
  omega
theorem unitO_le (m : Int) (S : ByteArray) (p : Nat) (hp : p < S.size) : (unitO m S p).length ≤ 160 := by
  unfold unitO
  cases Nat.beq (Utf8.decode S p).1 65533 with
  | false => exact genO_le _ _
  | true =>
    rw [cond_true]
    cases Nat.beq (Utf8.decode S p).2 1 with
    | true =>
      rw [cond_true]
      cases hasB m 16777216 with
      | true =>
        have h := quoteByte_size (S.get! p)
        have h0 : (quoteByte (S.get! p)).data.toList.length = (quoteByte (S.get! p)).size := Array.length_toList
        rw [cond_true]; omega
      | false => rw [cond_false]; simp
    | false =>
      rw [cond_false]
      cases hasB m 16777216 with
      | true => rw [cond_true]; exact Nat.le_trans (rune_le _) (by decide)
      | false =>
        rw [cond_false]
        have h4 := Lib.decodeGo_le4 (S.extract p S.size)
        rw [Lib.decodeGo_extract S p hp] at h4
        have h0 : (S.extract p (p + (Utf8.decode S p).2)).data.toList.length = (S.extract p (p + (Utf8.decode S p).2)).size := Array.length_toList
        rw [h0, ByteArray.size_extract]
        omega
theorem r90_wp {mp : Addr} {b it k : Nat} {r : Nat} {S U : ByteArray} {w : World} {a : Act} {Q : Exit → Act → World → Prop} (hA : St 602 ((279, .tuple #[.bool true, .int .i64 (k : Int), .int .i32 (r : Int)]) :: keptL mp b it S U) a)
    (hQ : ∀ a', St 602 [(1, .string S), (2, .pointer (some mp)), (15, .string U), (24, .pointer (some ⟨b, 0, none⟩)), (25, .int .i64 (k : Int)), (26, .int .i32 (r : Int)), (278, .pointer (some ⟨it, 0, none⟩))] a' → Q .normal a' w) : r90.wp Tryd.prog Q a w := by
  rw [show r90 = .region 90 #[{ dst := some 281, op := Go.Op.extract (Go.Operand.tmp 279) 1, type := 3, pos := "encoder.go:523", after := #[], guard := none }, { dst := some 282, op := Go.Op.extract (Go.Operand.tmp 279) 2, type := 21, pos := "encoder.go:523", after := #[{ on := 2, ground := Go.Ground.gcOnly Go.Departure.lateStores }], guard := none }, { dst := some 25, op := Go.Op.assign (Go.Operand.tmp 281), type := 3, pos := "encoder.go:523", after := #[{ on := 0, ground := Go.Ground.data }, { on := 0, ground := Go.Ground.phase }, { on := 1, ground := Go.Ground.textOnly Go.Departure.lateStores }], guard := none }, { dst := some 26, op := Go.Op.assign (Go.Operand.tmp 282), type := 21, pos := "encoder.go:523", after := #[{ on := 1, ground := Go.Ground.data }, { on := 2, ground := Go.Ground.chain }, { on := 0, ground := Go.Ground.phase }, { on := 1, ground := Go.Ground.phase }, { on := 2, ground := Go.Ground.phase }], guard := none }] false by kernel_rfl]
  have h1 := hA.put (d := 281) (v := .int .i64 (k : Int)) (by decide) (by rfl)
  have h2 := h1.put (d := 282) (v := .int .i32 (r : Int)) (by decide) (by rfl)
  have h3 := h2.put (d := 25) (v := .int .i64 (k : Int)) (by decide) (by rfl)
  have h4 := h3.put (d := 26) (v := .int .i32 (r : Int)) (by decide) (by rfl)
  refine wp_region_list (op1 rfl (s_val (r_extract (v := .int .i64 (k : Int)) (st_eval hA List.mem_cons_self) rfl) (op1 rfl (s_val (r_extract (v := .int .i32 (r : Int)) (st_eval (v := .tuple #[.bool true, .int .i64 (k : Int), .int .i32 (r : Int)]) h1 (by simp)) rfl) (op1 rfl (s_assign (st_eval (v := .int .i64 (k : Int)) h2 (by simp)) (op1 rfl (s_assign (st_eval (v := .int .i32 (r : Int)) h3 (by simp)) (op_end ?_)))))))))
  refine hQ _ (st_sub h4 ?_)
  intro p hp
  simp only [List.mem_cons, List.not_mem_nil, or_false] at hp ⊢
  rcases hp with rfl | rfl | rfl | rfl | rfl | rfl | rfl <;> simp
set_option maxRecDepth 100000 in
theorem lp35_is : lp35 = .seq (nth (sp lp35) 0) (.seq (.cond (.tmp 280) .skip (.exit 5)) (.block 6 (.seq r90 body35))) := by kernel_rfl
theorem loop_wp {mp : Addr} {m : Int} {b it : Nat} {S U : ByteArray} {wB : World} (hw : WorldOk wB mp m) (hB : wB.heap.size ≤ b) (hS : S.size ≤ 17592186044416) (hU : U.size ≤ 7) (hib : it ≠ b) (hiB : wB.heap.size ≤ it) {Q : Exit → Act → World → Prop} :
    ∀ (f p : Nat) (acc : List UInt8) (a : Act) (w : World), S.size ≤ p + f → acc.length + 160 * (S.size - p) ≤ 35184372088832 → St 602 (keptL mp b it S U) a → Below wB.heap.size wB w → Lib.IsBuffer 71 5 wB.heap.size b (Lib.byteCells acc) w → w.heap[it]? = some (.stringIter S p) →
      (∀ a' w', St 602 (keptL mp b it S U) a' → Below wB.heap.size wB w' → Lib.IsBuffer 71 5 wB.heap.size b (Lib.byteCells (acc ++ loopO m S f p)) w' → Q .normal a' w') → Code.rounds Tryd.prog lp35 (Exit.inBlock 5 Q) (f + 1) a w := by
  intro f
  induction f with
  | zero =>
    intro p acc a w hf hacc hA hlow hI hit hQ
    show lp35.wp Tryd.prog _ a w
    rw [lp35_is]
    refine wp_seq (r89_wp (S := S) (p := it) (k := p) (L := [(1, .string S), (2, .pointer (some mp)), (15, .string U), (24, .pointer (some ⟨b, 0, none⟩))]) (st_sub hA (by intro q hq; simp only [List.mem_cons, List.not_mem_nil, or_false] at hq ⊢; rcases hq with rfl | rfl | rfl | rfl | rfl <;> simp)) (by rfl) hit (fun hk => absurd hk (by omega)) (fun hk a' h' => ?_))
    refine wp_seq (wp_cond_false (st_eval h' List.mem_cons_self) (wp_exit ?_))
    show Exit.inBlock 5 Q (.exit 5) a' w
    simp only [Exit.inBlock, if_true]
    refine hQ a' w (st_sub h' (by intro q hq; simp only [List.mem_cons, List.not_mem_nil, or_false] at hq ⊢; rcases hq with rfl | rfl | rfl | rfl | rfl <;> simp)) hlow (by simpa [loopO] using hI)
  | succ f ih =>
    intro p acc a w hf hacc hA hlow hI hit hQ
    show lp35.wp Tryd.prog _ a w
    rw [lp35_is]
    refine wp_seq (r89_wp (S := S) (p := it) (k := p) (L := [(1, .string S), (2, .pointer (some mp)), (15, .string U), (24, .pointer (some ⟨b, 0, none⟩))]) (st_sub hA (by intro q hq; simp only [List.mem_cons, List.not_mem_nil, or_false] at hq ⊢; rcases hq with rfl | rfl | rfl | rfl | rfl <;> simp)) (by rfl) hit (fun hk a' h' => ?_) (fun hk a' h' => ?_))
    · refine wp_seq (wp_cond_true (st_eval h' List.mem_cons_self) (wp_skip ?_))
      refine wp_block (wp_seq (r90_wp (mp := mp) (b := b) (it := it) (k := p) (r := (Utf8.decode S p).1) (S := S) (U := U) (st_sub h' (by intro q hq; simp only [List.mem_cons, List.not_mem_nil, or_false] at hq ⊢; rcases hq with rfl | rfl | rfl | rfl | rfl | rfl <;> simp)) (fun a2 h2 => ?_)))
      have hul := unitO_le m S p hk
      have hwd := Lib.width_pos S p
      refine unit_wp hw hB hS hU hk (acc := acc) (by omega) (pn := p + (Utf8.decode S p).2) h2 (Lib.below_iterAt hlow hiB S _) (hI.iterAt hit _) ⟨hib, Lib.iterAt_heap w it S p _ hit⟩ (fun a3 w3 e he h3 hlow3 hI3 hit3 => ?_)
      have hnext := ih (p + (Utf8.decode S p).2) (acc ++ unitO m S p) a3 w3 (by omega) (by rw [List.length_append]; omega) h3 hlow3 hI3 hit3 (fun a4 w4 h4 hl4 hI4 => hQ a4 w4 h4 hl4 (by
        rw [List.append_assoc] at hI4
        have e1 : loopO m S (f + 1) p = unitO m S p ++ loopO m S f (p + (Utf8.decode S p).2) := by simp only [loopO, if_pos hk]
        rw [e1]
        exact hI4))
      rcases he with rfl | rfl
      · exact hnext
      · show Exit.inBlock 6 _ (.exit 6) a3 w3
        simp only [Exit.inBlock, if_true]
        exact hnext
    · refine wp_seq (wp_cond_false (st_eval h' List.mem_cons_self) (wp_exit ?_))
      show Exit.inBlock 5 Q (.exit 5) a' w
      simp only [Exit.inBlock, if_true]
      refine hQ a' w (st_sub h' (by intro q hq; simp only [List.mem_cons, List.not_mem_nil, or_false] at hq ⊢; rcases hq with rfl | rfl | rfl | rfl | rfl <;> simp)) hlow (by simpa [loopO, hk] using hI)
end Go.Proofs.YtonmnpmklkbioaaDoor.Sy
/- The contract of Encode. -/
namespace Go.Proofs.YtonmnpmklkbioaaDoor.Sy
open Go.RowKit Go.Proofs.YtonmnpmklkbioaaDoorW.PrintWords
set_option linter.unusedVariables false
set_option linter.unusedSimpArgs false
/-- What Encode gives. -/
def encO (m : Int) (S : ByteArray) : ByteArray :=
  match frontO m S with
  | .done t => t
  | .go K P U i => if i = -1 then K else
    ⟨(P.data.toList ++ (K.extract 0 i.toNat).data.toList ++ loopO m (K.extract i.toNat K.size) (K.extract i.toNat K.size).size 0 ++ U.data.toList).toArray⟩
theorem left_pos (m : Int) (S : ByteArray) : (leftO m S).1 = S ∨ (leftO m S).2.size ≠ 0 := by
  unfold leftO
  cases h1 : stg m 131072 [32] (enL S) with
  | some p => exact .inr (stg_pos h1).1
  | none =>
    cases h2 : stg m 262144 [46] (enL S) with
    | some p => exact .inr (stg_pos h2).1
    | none =>
      cases h3 : stg m 524288 [126] (enL S) with
      | some p => exact .inr (stg_pos h3).1
      | none =>
        cases h4 : stg m 1048576 [9, 10, 11, 13] (enL S) with
        | some p => exact .inr (stg_pos h4).1
        | none => exact .inl rfl
theorem right_pos (m : Int) (S : ByteArray) : (rightO m S).1 = S ∨ (rightO m S).2.size ≠ 0 := by
  unfold rightO
  cases h0 : S.toList == [] with
  | true => exact .inl rfl
  | false =>
    rw [cond_false]
    cases h1 : stg m 2097152 [32] (enR S) with
    | some p => exact .inr (stg_pos h1).1
    | none =>
      cases h2 : stg m 4194304 [46] (enR S) with
      | some p => exact .inr (stg_pos h2).1
      | none =>
        cases h3 : stg m 8388608 [9, 10, 11, 13] (enR S) with
        | some p => exact .inr (stg_pos h3).1
        | none => exact .inl rfl
theorem front_go {m : Int} {S K P U : ByteArray} {i : Int} (h : frontO m S = .go K P U i) : K.size ≤ S.size ∧ P.size ≤ 7 ∧ U.size ≤ 7 ∧ 0 < K.size + P.size + U.size ∧ (i = -1 ∨ (0 ≤ i ∧ i ≤ K.size)) := by
  unfold frontO at h
  cases h1 : m == 1 with
  | true => rw [h1] at h; cases h
  | false =>
    rw [h1, cond_false] at h
    cases h2 : S.toList == [] with
    | true => rw [h2] at h; cases h
    | false =>
      rw [h2, cond_false] at h
      have hs : S.size ≠ 0 := by
        rw [size_nil] at h2
        exact of_decide_eq_false h2
      cases h3 : dotO m S with
      | some t => rw [h3] at h; cases h
      | none =>
        rw [h3] at h
        cases h
        have l1 := leftO_le m S
        have l2 := rightO_le m (leftO m S).1
        have p1 := left_pos m S
        have p2 := right_pos m (leftO m S).1
        refine ⟨Nat.le_trans l2.1 l1.1, l1.2, l2.2, ?_, ?_⟩
        · rcases p2 with e | e
          · rw [e]
            rcases p1 with e' | e'
            · rw [e']; omega
            · omega
          · omega
        · cases (leftO m S).2.toList == [] && (rightO m (leftO m S).1).2.toList == [] with
          | false => exact .inr ⟨Int.le_refl _, by rw [cond_false]; omega⟩
          | true =>
            rw [cond_true]
            rcases Lib.idxFunc_range (hitG 60 m) true (rightO m (leftO m S).1).1 with e | e
            · exact .inl e
            · exact .inr ⟨e.1, by omega⟩
theorem loopO_le (m : Int) (S : ByteArray) : ∀ f p, (loopO m S f p).length ≤ 160 * f
  | 0, _ => Nat.le_refl _
  | f + 1, p => by
    by_cases h : p < S.size
    · have e1 : loopO m S (f + 1) p = unitO m S p ++ loopO m S f (p + (Utf8.decode S p).2) := by simp only [loopO, if_pos h]
      have h1 := unitO_le m S p h
      have h2 := loopO_le m S f (p + (Utf8.decode S p).2)
      rw [e1, List.length_append]
      omega
    · have e1 : loopO m S (f + 1) p = [] := by simp only [loopO, if_neg h]
      rw [e1]; exact Nat.zero_le _
set_option maxRecDepth 1000000 in
theorem c35_is : c35 = .seq (e35 0) (.seq (e35 1) (.seq (e35 2) (.seq (e35 3) (.seq (e35 4) (.seq (e35 5) (.seq (e35 6) (.seq (e35 7) (.seq (e35 8) (.seq (e35 9) (.seq (e35 10) (.seq (e35 11) (.seq (e35 12) (.seq (e35 13) (.seq (e35 14) (.seq (e35 15) (.seq (e35 16) (.seq (e35 17) (.seq (e35 18) (.seq (e35 19) (.seq (e35 20) (.seq (e35 21) .ret))))))))))))))))))))) := by kernel_rfl
set_option maxRecDepth 1000000 in
theorem e19_is : e35 19 = .seq (nth (sp (e35 19)) 0) (.block 5 (.loop lp35)) := by kernel_rfl
def s15 : DS Ab Ef := (.leaf ⟨.normal, [some (.atom (.str Sb.K)), some (.atom .mptr), some (.atom (.str Sb.P)), some (.atom (.str Sb.U)), some (.atom .idx), some (.atom .buf)], [Ef.gr]⟩)
set_option maxRecDepth 1000000 in
theorem s15_is : (comp0 (rulesB ⟨false, false, false, false, true⟩ 602) (e35 15) [(1, .atom (.str .K)), (2, .atom .mptr), (5, .atom (.str .P)), (15, .atom (.str .U)), (23, .atom .idx), (24, .atom .buf)]).map (fun d => norm (fun _ => none) (strip1 [1, 2, 5, 15, 23, 24] d)) = some s15 := by kernel_rfl
def s16 : DS Ab Ef := (.leaf ⟨.normal, [some (.atom (.str Sb.K)), some (.atom .mptr), some (.atom (.str Sb.P)), some (.atom (.str Sb.U)), some (.atom .idx), some (.atom .buf)], [Ef.st Sb.P]⟩)
set_option maxRecDepth 1000000 in
theorem s16_is : (comp0 (rulesB ⟨false, false, false, false, false⟩ 602) (e35 16) [(1, .atom (.str .K)), (2, .atom .mptr), (5, .atom (.str .P)), (15, .atom (.str .U)), (23, .atom .idx), (24, .atom .buf)]).map (fun d => norm (fun _ => none) (strip1 [1, 2, 5, 15, 23, 24] d)) = some s16 := by kernel_rfl
def s17 : DS Ab Ef := (.leaf ⟨.normal, [some (.atom (.str Sb.K)), some (.atom .mptr), some (.atom (.str Sb.P)), some (.atom (.str Sb.U)), some (.atom .idx), some (.atom .buf)], [Ef.st Sb.klo]⟩)
set_option maxRecDepth 1000000 in
theorem s17_is : (comp0 (rulesB ⟨false, false, false, false, false⟩ 602) (e35 17) [(1, .atom (.str .K)), (2, .atom .mptr), (5, .atom (.str .P)), (15, .atom (.str .U)), (23, .atom .idx), (24, .atom .buf)]).map (fun d => norm (fun _ => none) (strip1 [1, 2, 5, 15, 23, 24] d)) = some s17 := by kernel_rfl
def s18 : DS Ab Ef := (.leaf ⟨.normal, [some (.atom (.str Sb.khi)), some (.atom .mptr), some (.atom (.str Sb.U)), some (.atom .buf)], []⟩)
set_option maxRecDepth 1000000 in
theorem s18_is : (comp0 (rulesB ⟨false, false, false, false, false⟩ 602) (e35 18) [(1, .atom (.str .K)), (2, .atom .mptr), (5, .atom (.str .P)), (15, .atom (.str .U)), (23, .atom .idx), (24, .atom .buf)]).map (fun d => norm (fun _ => none) (strip1 [1, 2, 15, 24] d)) = some s18 := by kernel_rfl
def xk (mp : Addr) (m : Int) (b : Nat) (K P U : ByteArray) (i : Int) (fl : Fb) : Cb := ⟨mp, m, b, 0, 0, K, P, U, ⟨#[239, 191, 189]⟩, i, 0, 0, fl⟩
theorem xk_ok {mp : Addr} {m : Int} {b : Nat} {K P U : ByteArray} {i : Int} (fr : Bool) (hK : K.size ≤ 17592186044416) (hP : P.size ≤ 7) (hU : U.size ≤ 7) (hi : 0 ≤ i ∧ i ≤ K.size) (h0 : 0 < K.size + P.size + U.size) : OkB (xk mp m b K P U i ⟨false, false, false, false, fr⟩) :=
  { mxK := hK
    mxP := Nat.le_trans hP (by decide)
    mxU := Nat.le_trans hU (by decide)
    mxS := (show (3 : Nat) ≤ 17592186044416 by decide)
    neg := (show false = (i == -1) by symm; simp; omega)
    ix := fun _ => hi
    pos := Nat.zero_le _
    near := rfl
    b3 := fun _ => (show false = !(((⟨#[239, 191, 189]⟩ : ByteArray).extract 0 (0 + 3)).toList == [239, 191, 189]) by rw [tl_eq]; decide)
    bad := fun h => (by cases h)
    fresh := fun _ => h0
    r := (show (-2147483648 : Int) ≤ 0 ∧ (0 : Int) ≤ 2147483647 by decide) }
theorem bstep (x : Cb) (hx : OkB x) (hfr : x.fl.fresh = false) {c rest : Code} {d : DS Ab Ef} {env : Env Ab} {ks : List Nat} {l : List (Nat × Value)} {out : List UInt8} (his : (comp0 (rulesB x.fl 602) c env).map (fun D => norm (fun _ => none) (strip1 ks D)) = some d)
    (hrun : (d.run x.B).x = .normal ∧ vals x.V ks (d.run x.B).es = l) (hby : x.bytes (d.run x.B).tr = out) {wB : World} (hw : WorldOk wB x.mp x.m) (hB : wB.heap.size ≤ x.b) {acc : List UInt8} (hacc : acc.length ≤ 35184372088832) {a : Act} {w : World} {Q : Exit → Act → World → Prop}
    (hA : St 602 (env.map fun p => (p.1, p.2.val x.V)) a) (hlow : Below wB.heap.size wB w) (hI : Lib.IsBuffer 71 5 wB.heap.size x.b (Lib.byteCells acc) w)
    (hQ : ∀ a' w', St 602 l a' → Below wB.heap.size wB w' → Lib.IsBuffer 71 5 wB.heap.size x.b (Lib.byteCells (acc ++ out)) w' → rest.wp Tryd.prog Q a' w') : (Code.seq c rest).wp Tryd.prog Q a w := by
  have hR : Rw x wB acc none [] w := ⟨hlow, by rw [if_neg (by rw [hfr]; simp)]; simpa [Cb.bytes] using hI, fun p hp => by cases hp⟩
  refine wp_seq (tree_st (soundB 602 x hx wB hw acc hacc none (fun h => by rw [hfr] at h; cases h) hB) his hA hR (by rw [hrun.1]; intro e; cases e) (fun a' w' h1 h2 => ?_))
  rw [hrun.1]
  rw [hrun.2] at h1
  have hbuf := h2.buf
  rw [if_neg (by rw [hfr]; simp), hby] at hbuf
  exact hQ a' w' h1 h2.low hbuf
theorem back_wp {mp : Addr} {m : Int} {K P U : ByteArray} {i : Int} (hK : K.size ≤ 17592186044) (hP : P.size ≤ 7) (hU : U.size ≤ 7) (hi : 0 ≤ i ∧ i ≤ K.size) (h0 : 0 < K.size + P.size + U.size) {wB : World} (hw : WorldOk wB mp m) {a : Act} {Q : Exit → Act → World → Prop}
    (hA : St 602 [(1, .string K), (23, .int .i64 i), (2, .pointer (some mp)), (5, .string P), (15, .string U)] a)
    (hQ : ∀ a' w', St 602 [(4, .string ⟨(P.data.toList ++ (K.extract 0 i.toNat).data.toList ++ loopO m (K.extract i.toNat K.size) (K.extract i.toNat K.size).size 0 ++ U.data.toList).toArray⟩)] a' → Below wB.heap.size wB w' → Q .ret a' w') :
    (Code.seq (e35 14) (.seq (e35 15) (.seq (e35 16) (.seq (e35 17) (.seq (e35 18) (.seq (e35 19) (.seq (e35 20) (.seq (e35 21) .ret)))))))).wp Tryd.prog Q a wB := by
  have hK2 : K.size ≤ 17592186044416 := by omega
  refine wp_seq (e14_wp hA (by rfl) (fun a1 h1 => ?_))
  have hlow1 : Below wB.heap.size wB (wB.alloc (.cells #[.slice none 0 0, .int .i64 0, .int .i8 0] 71)) := (Below.refl _ wB).alloc (Nat.le_refl _) _
  have hx1 := xk_ok (mp := mp) (m := m) (b := wB.heap.size) (i := i) true hK2 hP hU hi h0
  have hx2 := xk_ok (mp := mp) (m := m) (b := wB.heap.size) (i := i) false hK2 hP hU hi h0
  have hlP : P.data.toList.length = P.size := Array.length_toList
  have hlK : (K.extract 0 i.toNat).data.toList.length = (K.extract 0 i.toNat).size := Array.length_toList
  have hlK2 : (K.extract 0 i.toNat).size ≤ K.size := by rw [ByteArray.size_extract]; omega
  have hR1 : Rw (xk mp m wB.heap.size K P U i ⟨false, false, false, false, true⟩) wB [] none [] (wB.alloc (.cells #[.slice none 0 0, .int .i64 0, .int .i8 0] 71)) := ⟨hlow1, by rw [if_pos (by rfl)]; exact heap_alloc_new wB _, fun p hp => by cases hp⟩
  refine wp_seq (tree_st (soundB 602 _ hx1 wB hw [] (Nat.zero_le _) none (fun _ => ⟨rfl, rfl⟩) (Nat.le_refl _)) s15_is (a := a1) (st_sub h1 (by intro q hq; simp only [List.map_cons, List.map_nil, List.mem_cons, List.not_mem_nil, or_false] at hq ⊢; rcases hq with rfl | rfl | rfl | rfl | rfl | rfl <;> simp [E.val, Cb.V, Cb.str, xk])) hR1 (by intro e; cases e) (fun a2 w2 h2 hR2 => ?_))
  have hI2 : Lib.IsBuffer 71 5 wB.heap.size wB.heap.size (Lib.byteCells []) w2 := hR2.buf
  have hL : St 602 [(1, .string K), (2, .pointer (some mp)), (5, .string P), (15, .string U), (23, .int .i64 i), (24, .pointer (some ⟨wB.heap.size, 0, none⟩))] a2 := h2
  show (Code.seq (e35 16) _).wp Tryd.prog Q a2 w2
  refine bstep (xk mp m wB.heap.size K P U i ⟨false, false, false, false, false⟩) hx2 rfl (d := s16) (out := P.data.toList) (l := [(1, .string K), (2, .pointer (some mp)), (5, .string P), (15, .string U), (23, .int .i64 i), (24, .pointer (some ⟨wB.heap.size, 0, none⟩))]) s16_is ⟨rfl, rfl⟩ (by simp [s16, DS.run, Cb.bytes, Cb.eb, Cb.str, xk]) hw (Nat.le_refl _) (acc := []) (Nat.zero_le _) hL hR2.low hI2 (fun a3 w3 h3 hlow3 hI3 => ?_)
  refine bstep (xk mp m wB.heap.size K P U i ⟨false, false, false, false, false⟩) hx2 rfl (d := s17) (out := (K.extract 0 i.toNat).data.toList) (l := [(1, .string K), (2, .pointer (some mp)), (5, .string P), (15, .string U), (23, .int .i64 i), (24, .pointer (some ⟨wB.heap.size, 0, none⟩))]) s17_is ⟨rfl, rfl⟩ (by simp [s17, DS.run, Cb.bytes, Cb.eb, Cb.str, xk]) hw (Nat.le_refl _) (acc := P.data.toList) (by omega) h3 hlow3 hI3 (fun a4 w4 h4 hlow4 hI4 => ?_)
  refine bstep (xk mp m wB.heap.size K P U i ⟨false, false, false, false, false⟩) hx2 rfl (d := s18) (out := []) (l := [(1, .string (K.extract i.toNat K.size)), (2, .pointer (some mp)), (15, .string U), (24, .pointer (some ⟨wB.heap.size, 0, none⟩))]) s18_is ⟨rfl, rfl⟩ rfl hw (Nat.le_refl _) (acc := P.data.toList ++ (K.extract 0 i.toNat).data.toList) (by rw [List.length_append]; omega) h4 hlow4 hI4 (fun a5 w5 h5 hlow5 hI5 => ?_)
  rw [List.append_nil] at hI5
  obtain ⟨S, hS⟩ : ∃ S, K.extract i.toNat K.size = S := ⟨_, rfl⟩
  have hSs : S.size ≤ K.size := by rw [← hS, ByteArray.size_extract]; omega
  rw [hS] at h5 hQ
  refine wp_seq ?_
  rw [e19_is]
  refine wp_seq (r88_wp h5 (by rfl) (by rfl) (fun a6 h6 => ?_))
  have hsz : wB.heap.size ≤ w5.heap.size := hlow5.size
  refine wp_block (wp_loop_rounds (S.size + 1) (loop_wp hw (Nat.le_refl _) (S := S) (U := U) (it := w5.heap.size) (by omega) hU (Nat.ne_of_gt hI5.lt) hsz S.size 0 (P.data.toList ++ (K.extract 0 i.toNat).data.toList) a6 (w5.iter S 0) (by omega) (by rw [List.length_append]; omega) ?_ (hlow5.alloc hsz _) (hI5.alloc _) (World.iter_heap w5 S 0) (fun a7 w7 h7 hlow7 hI7 => ?_)))
  · exact st_sub h6 (by intro q hq; simp only [List.mem_cons, List.not_mem_nil, or_false] at hq ⊢; rcases hq with rfl | rfl | rfl | rfl | rfl <;> simp)
  · show (Code.seq (e35 20) _).wp Tryd.prog Q a7 w7
    have hll : (loopO m S S.size 0).length ≤ 160 * S.size := loopO_le m S S.size 0
    refine bstep (xk mp m wB.heap.size K P U i ⟨false, false, false, false, false⟩) hx2 rfl (d := g20) (out := U.data.toList) (l := [(24, .pointer (some ⟨wB.heap.size, 0, none⟩))]) g20_is ⟨rfl, rfl⟩ (by simp [g20, DS.run, Cb.bytes, Cb.eb, Cb.str, xk]) hw (Nat.le_refl _) (by rw [List.length_append, List.length_append]; omega) (st_sub h7 (by intro q hq; simp only [List.map_cons, List.map_nil, List.mem_cons, List.not_mem_nil, or_false] at hq ⊢; rcases hq with rfl | rfl <;> simp [E.val, Cb.V, Cb.str, xk])) hlow7 hI7 (fun a8 w8 h8 hlow8 hI8 => ?_)
    exact e21_wp h8 hI8 (fun a9 n h9 => hQ a9 _ h9 (below_drewN hlow8 n))
set_option maxRecDepth 1000000 in
theorem calls35 (m : Int) (S : ByteArray) (w : World) (hS : S.size ≤ 17592186044) (hT : Lib.Utf8Tabs (Laid.L_n197_ren.g 3) (Laid.L_n197_ren.g 4) w) :
    Calls Tryd.prog 35 #[.int .u64 m, .string S] w fun e w' => e = .returned (.string (encO m S)) ∧ Below w.heap.size w w' := by
  have hb0 : Below w.heap.size w (w.alloc (.cells #[.int .u64 m] 43)) := (Below.refl _ w).alloc (Nat.le_refl _) _
  have hw0 : WorldOk (w.alloc (.cells #[.int .u64 m] 43)) ⟨w.heap.size, 0, none⟩ m :=
    ⟨by rw [Lib.cell_of_heap (heap_alloc_new w _)]; rfl, fun c hc => (hb0.cell (World.block_lt_of_cell? w _ (hT.1 c hc))).trans (hT.1 c hc), fun i hi => ⟨(hb0.cell (World.block_lt_of_cell? w _ (hT.2 i hi).1)).trans (hT.2 i hi).1, (hb0.cell (World.block_lt_of_cell? w _ (hT.2 i hi).2)).trans (hT.2 i hi).2⟩⟩
  have hbz : w.heap.size ≤ (w.alloc (.cells #[.int .u64 m] 43)).heap.size := hb0.size
  refine calls_of_wp (Tryd.func35) (c := c35) (by kernel_rfl) ?_
  have fin : ∀ t a' w', t = encO m S → St 602 [(4, .string t)] a' → Below (w.alloc (.cells #[.int .u64 m] 43)).heap.size (w.alloc (.cells #[.int .u64 m] 43)) w' →
      bodyPost Tryd.prog Tryd.f35 (fun e w' => e = .returned (.string (encO m S)) ∧ Below w.heap.size w w') .ret a' w' := by
    intro t a' w' ht hA hb
    refine ⟨hA.df, .string t, ?_, by rw [ht], hb0.trans (hb.mono hbz)⟩
    have h4 := st_at hA List.mem_cons_self
    rw [results_tmp (t := 4) Tryd.results35]
    simp only [Array.getD_eq_getD_getElem?, h4, Option.getD_some]
  rw [c35_is]
  refine wp_seq (e0_wp (m := m) (S := S) ⟨rfl, by kernel_rfl, fun p hp => ?_⟩ (fun a0 h0 => ?_))
  · simp only [List.mem_cons, List.not_mem_nil, or_false] at hp
    rcases hp with rfl | rfl
    · exact init_at rfl
    · exact init_at rfl
  · show (Code.seq (e35 1) _).wp Tryd.prog _ a0 _
    refine front_wp (by omega) hw0 h0 (Below.refl _ _) ?_ ?_
    · intro t ht a' w' hA hb
      exact fin t a' w' (by unfold encO; rw [ht]) hA hb
    · intro K P U i hgo a' w' hA hb
      have hf := front_go hgo
      refine e13_wp (i := i) (K := K) (L := [(2, .pointer (some ⟨w.heap.size, 0, none⟩)), (5, .string P), (15, .string U)]) (st_sub hA (by intro q hq; simp only [List.mem_cons, List.not_mem_nil, or_false] at hq ⊢; rcases hq with rfl | rfl | rfl | rfl | rfl <;> simp)) (by rfl) ?_ ?_
      · intro hi a2 h2
        exact fin K a2 w' (by unfold encO; rw [hgo]; simp only [if_pos hi]) h2 hb
      · intro hi a2 h2
        refine back_wp (by omega) hf.2.1 hf.2.2.1 (hf.2.2.2.2.resolve_left hi) hf.2.2.2.1 (hw0.below hb) h2 (fun a3 w3 h3 hb3 => ?_)
        exact fin _ a3 w3 (by unfold encO; rw [hgo]; simp only [if_neg hi]) h3 (hb.trans (hb3.mono hb.size))
end Go.Proofs.YtonmnpmklkbioaaDoor.Sy
