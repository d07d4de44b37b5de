/- 5 texts of this claim, one behind the other. -/
import Derived.Test.YtonmnpmklkbioaaDoorGi
import Derived.Test.YtonmnpmklkbioaaDoorGh
import Derived.Test.YtonmnpmklkbioaaDoorGe
import Derived.LoopN
/- Decode's few statements that make memory, step by step. -/
namespace Go.Proofs.YtonmnpmklkbioaaDoor.Sy
open Go.RowKit Go.Proofs.YtonmnpmklkbioaaDoorW.PrintWords
set_option linter.unusedVariables false
set_option linter.unusedSimpArgs false
noncomputable def lp44 : Code := unB (unB (nth (sp (e44 16)) 1))
noncomputable def b44 : Code := unB (nth (sp lp44) 2)
noncomputable def r66 : Code := nth (sp b44) 0
set_option maxRecDepth 100000 in
theorem d0_wp {m : Int} {S : ByteArray} {w : World} {a : Act} {Q : Exit → Act → World → Prop} (hA : St 553 [(0, .int .u64 m), (1, .string S)] a) (hQ : ∀ a', St 553 [(1, .string S), (2, .pointer (some ⟨w.heap.size, 0, none⟩))] a' → Q .normal a' (w.alloc (.cells #[.int .u64 m] 43))) : (e44 0).wp Tryd.prog Q a w := by
  rw [show e44 0 = Go.Code.region 0 #[{ dst := some 2, op := Go.Op.box 43 (Go.Operand.tmp 0), type := 0, pos := "encoder.go:762", after := #[], guard := none }, { dst := some 4, op := Go.Op.assign (Go.Operand.const (Go.Value.string ⟨#[]⟩)), type := 9, pos := "encoder.go:762", after := #[], guard := none }] false by kernel_rfl]
  refine wp_region_list (op1 rfl (s_box (st_eval (v := .int .u64 m) hA (by simp)) (op1 rfl (s_assign rfl (op_end ?_)))))
  exact hQ _ (st_sub ((hA.put (by decide) (by rfl)).put (by decide) (by rfl)) (by simp))
set_option maxRecDepth 100000 in
theorem d9_wp {i : Int} {K : ByteArray} {L : List (Nat × Value)} {w : World} {a : Act} {rest : Code} {Q : Exit → Act → World → Prop} (hA : St 553 ((1, .string K) :: (19, .int .i64 i) :: L) a) (hL : L.all (fun p => !Nat.beq p.1 271 && !Nat.beq p.1 272) = true)
    (hret : i = -1 → ∀ a', St 553 [(4, .string K)] a' → Q .ret a' w) (hgo : i ≠ -1 → ∀ a', St 553 ((1, .string K) :: (19, .int .i64 i) :: L) a' → rest.wp Tryd.prog Q a' w) : (Code.seq (e44 9) rest).wp Tryd.prog Q a w := by
  rw [show e44 9 = (Go.Code.region 56 #[{ dst := some 271, op := Go.Op.move (Go.Operand.tmp 19), type := 3, pos := "encoder.go:952", after := #[], guard := none }, { dst := some 272, op := Go.Op.binOp Go.BinOp.eql 3 (Go.Operand.tmp 271) (Go.Operand.const (Go.Value.int Go.IntKind.i64 (-1))) 3, type := 4, pos := "encoder.go:952", after := #[{ on := 0, ground := Go.Ground.data }], guard := none }] false).seq (Go.Code.cond (Go.Operand.tmp 272) ((Go.Code.region 57 #[{ dst := some 273, op := Go.Op.move (Go.Operand.tmp 1), type := 9, pos := "encoder.go:953", after := #[], guard := none }, { dst := some 4, op := Go.Op.assign (Go.Operand.tmp 273), type := 9, pos := "encoder.go:953", after := #[{ on := 0, ground := Go.Ground.data }, { on := 0, ground := Go.Ground.phase }], guard := none }] false).seq Go.Code.ret) Go.Code.skip) by kernel_rfl]
  have hL1 : ((1, Value.string K) :: (19, Value.int .i64 i) :: L).all (fun p => !Nat.beq p.1 271) = true := by
    rw [List.all_eq_true] at hL ⊢
    intro p hp
    rcases List.mem_cons.1 hp with rfl | hp
    · rfl
    · rcases List.mem_cons.1 hp with rfl | hp
      · rfl
      · have := hL p hp; simp only [Bool.and_eq_true] at this; exact this.1
  have hL2 : ((271, Value.int .i64 i) :: (1, Value.string K) :: (19, Value.int .i64 i) :: L).all (fun p => !Nat.beq p.1 272) = true := by
    rw [List.all_eq_true] at hL ⊢
    intro p hp
    rcases List.mem_cons.1 hp with rfl | hp
    · rfl
    · rcases List.mem_cons.1 hp with rfl | hp
      · rfl
      · rcases List.mem_cons.1 hp with rfl | hp
        · rfl
        · have := hL p hp; simp only [Bool.and_eq_true] at this; exact this.2
  have h1 := hA.put (d := 271) (v := .int .i64 i) (by decide) hL1
  have h2 := h1.put (d := 272) (v := .bool (i == -1)) (by decide) hL2
  refine wp_seq (wp_seq (wp_region_list (op1 rfl (s_move (st_eval (v := .int .i64 i) hA (by simp)) (op1 rfl (s_val (r_eql64 (st_eval (v := .int .i64 i) h1 (by simp)) rfl) (op_end ?_)))))))
  by_cases hi : i = -1
  · refine wp_cond_true (by rw [st_eval h2 (List.mem_cons_self)]; simp [hi]) ?_
    have h3 := (st_sub h2 (l' := [(1, .string K)]) (by simp)).put (d := 273) (v := .string K) (by decide) (by rfl)
    have h4 := h3.put (d := 4) (v := .string K) (by decide) (by rfl)
    refine wp_seq (wp_region_list (op1 rfl (s_move (st_eval (v := .string K) h2 (by simp)) (op1 rfl (s_assign (st_eval (v := .string K) h3 (by simp)) (op_end (wp_ret ?_)))))))
    exact hret hi _ (st_sub h4 (by simp))
  · refine wp_cond_false (by rw [st_eval h2 (List.mem_cons_self)]; simp [hi]) (wp_skip ?_)
    exact hgo hi _ (st_sub h2 (fun p hp => List.mem_cons_of_mem _ (List.mem_cons_of_mem _ hp)))
set_option maxRecDepth 100000 in
theorem d10_wp {L : List (Nat × Value)} {w : World} {a : Act} {Q : Exit → Act → World → Prop} (hA : St 553 L a) (hL : L.all (fun p => !Nat.beq p.1 20) = true) (hQ : ∀ a', St 553 ((20, .pointer (some ⟨w.heap.size, 0, none⟩)) :: L) a' → Q .normal a' (w.alloc (.cells #[.slice none 0 0, .int .i64 0, .int .i8 0] 71))) : (e44 10).wp Tryd.prog Q a w := by
  rw [show e44 10 = Go.Code.region 58 #[{ dst := some 20, op := Go.Op.alloc 71, type := 0, pos := "encoder.go:956", after := #[], guard := none }] false by kernel_rfl]
  refine wp_region_list (op1 rfl (s_alloc (op_end ?_)))
  exact hQ _ (hA.put (by decide) hL)
set_option maxRecDepth 100000 in
theorem d64_wp {S : ByteArray} {L : List (Nat × Value)} {w : World} {a : Act} {Q : Exit → Act → World → Prop} (hA : St 553 ((1, .string S) :: L) a) (hL : ((1, Value.string S) :: L).all (fun p => !Nat.beq p.1 286) = true) (hL2 : ((286, Value.string S) :: (1, Value.string S) :: L).all (fun p => !Nat.beq p.1 287) = true) (hQ : ∀ a', St 553 ((287, .pointer (some ⟨w.heap.size, 0, none⟩)) :: (1, .string S) :: L) a' → Q .normal a' (w.iter S 0)) : (nth (sp (e44 16)) 0).wp Tryd.prog Q a w := by
  rw [show nth (sp (e44 16)) 0 = Go.Code.region 64 #[{ dst := some 286, op := Go.Op.move (Go.Operand.tmp 1), type := 9, pos := "encoder.go:964", after := #[], guard := none }, { dst := some 287, op := Go.Op.range 9 (Go.Operand.tmp 286), type := 0, pos := "encoder.go:964", after := #[{ on := 0, ground := Go.Ground.data }], guard := none }] false by kernel_rfl]
  have h1 := hA.put (d := 286) (v := .string S) (by decide) hL
  refine wp_region_list (op1 rfl (s_move (st_eval (v := .string S) hA (by simp)) (op1 rfl (s_range (st_eval (v := .string S) h1 (by simp)) (op_end ?_)))))
  exact hQ _ (st_sub (h1.put (by decide) hL2) (by intro p hp; rcases List.mem_cons.1 hp with rfl | hp; exact List.mem_cons_self; exact List.mem_cons_of_mem _ (List.mem_cons_of_mem _ hp)))
set_option maxRecDepth 100000 in
theorem d65_wp {S : ByteArray} {p k : Nat} {L : List (Nat × Value)} {w : World} {a : Act} {Q : Exit → Act → World → Prop} (hA : St 553 ((287, .pointer (some ⟨p, 0, none⟩)) :: L) a) (hL : L.all (fun p => !Nat.beq p.1 288 && !Nat.beq p.1 289) = true) (hit : w.heap[p]? = some (.stringIter S k))
    (hgo : k < S.size → ∀ a', St 553 ((289, .bool true) :: (288, .tuple #[.bool true, .int .i64 k, .int .i32 (Utf8.decode S k).1]) :: (287, .pointer (some ⟨p, 0, none⟩)) :: L) a' → Q .normal a' (w.iterAt p S (k + (Utf8.decode S k).2)))
    (hend : ¬ k < S.size → ∀ a', St 553 ((289, .bool false) :: (287, .pointer (some ⟨p, 0, none⟩)) :: L) a' → Q .normal a' w) : (nth (sp lp44) 0).wp Tryd.prog Q a w := by
  rw [show nth (sp lp44) 0 = Go.Code.region 65 #[{ dst := some 288, op := Go.Op.next (Go.Operand.tmp 287) true, type := 0, pos := "encoder.go:964", after := #[], guard := none }, { dst := some 289, op := Go.Op.extract (Go.Operand.tmp 288) 0, type := 4, pos := "encoder.go:964", after := #[{ on := 0, ground := Go.Ground.data }], guard := none }] false by kernel_rfl]
  have hL1 : ((287, Value.pointer (some ⟨p, 0, none⟩)) :: L).all (fun p => !Nat.beq p.1 288) = true := by
    rw [List.all_eq_true] at hL ⊢
    intro p hp
    rcases List.mem_cons.1 hp with rfl | hp
    · rfl
    · have := hL p hp; simp only [Bool.and_eq_true] at this; exact this.1
  have hL2 : ∀ v, ((288, v) :: (287, Value.pointer (some ⟨p, 0, none⟩)) :: L).all (fun p => !Nat.beq p.1 289) = true := by
    intro v
    rw [List.all_eq_true] at hL ⊢
    intro p hp
    rcases List.mem_cons.1 hp with rfl | hp
    · rfl
    · rcases List.mem_cons.1 hp with rfl | hp
      · rfl
      · have := hL p hp; simp only [Bool.and_eq_true] at this; exact this.2
  by_cases hk : k < S.size
  · have h1 := hA.put (d := 288) (v := .tuple #[.bool true, .int .i64 k, .int .i32 (Utf8.decode S k).1]) (by decide) hL1
    refine wp_region_list (op1 rfl (s_next (st_eval (v := .pointer (some ⟨p, 0, none⟩)) hA (by simp)) hit hk (op1 rfl (s_val (r_extract (st_eval (v := .tuple #[.bool true, .int .i64 k, .int .i32 (Utf8.decode S k).1]) h1 (by simp)) rfl) (op_end ?_)))))
    exact hgo hk _ (h1.put (by decide) (hL2 _))
  · have h1 := hA.put (d := 288) (v := .tuple #[.bool false]) (by decide) hL1
    refine wp_region_list (op1 rfl (s_nextEnd (st_eval (v := .pointer (some ⟨p, 0, none⟩)) hA (by simp)) hit hk (op1 rfl (s_val (r_extract (st_eval (v := .tuple #[.bool false]) h1 (by simp)) rfl) (op_end ?_)))))
    exact hend hk _ (st_sub (h1.put (by decide) (hL2 _)) (by intro p hp; rcases List.mem_cons.1 hp with rfl | hp; exact List.mem_cons_self; exact List.mem_cons_of_mem _ (List.mem_cons_of_mem _ hp)))
set_option maxRecDepth 100000 in
theorem d19_wp {B b : Nat} {l : List UInt8} {L : List (Nat × Value)} {w : World} {a : Act} {Q : Exit → Act → World → Prop} (hA : St 553 ((20, .pointer (some ⟨b, 0, none⟩)) :: L) a) (hI : Lib.IsBuffer 71 5 B b (Lib.byteCells l) w) (hQ : ∀ a' n, St 553 [(4, .string ⟨l.toArray⟩)] a' → Q .ret a' (w.drewN n)) : (Code.seq (e44 19) .ret).wp Tryd.prog Q a w := by
  rw [show e44 19 = Go.Code.region 208 #[{ dst := some 552, op := Go.Op.call { callee := Go.Callee.value (Go.Operand.func 65), args := #[Go.Operand.tmp 20], argTypes := #[71] }, type := 9, pos := "encoder.go:1217", after := #[], guard := none }, { dst := some 4, op := Go.Op.assign (Go.Operand.tmp 552), type := 9, pos := "encoder.go:1217", after := #[{ on := 0, ground := Go.Ground.data }, { on := 0, ground := Go.Ground.chain }, { on := 0, ground := Go.Ground.phase }], guard := none }] false by kernel_rfl]
  refine wp_seq (wp_region_list (op1 rfl (s_call1 (T := fun w' => ∃ n, w' = w.drewN n) enter65 (st_eval (v := .pointer (some ⟨b, 0, none⟩)) hA (by simp)) (Any.Buffer_String Laid.L_n182 B b l w hI) (fun w' hw' => ?_))))
  obtain ⟨n, rfl⟩ := hw'
  have h1 := (st_sub hA (l' := []) (by simp)).put (d := 552) (v := .string ⟨l.toArray⟩) (by decide) (by rfl)
  refine op1 rfl (s_assign (st_eval (v := .string ⟨l.toArray⟩) h1 (by simp)) (op_end (wp_ret ?_)))
  exact hQ _ n (st_sub (h1.put (d := 4) (v := .string ⟨l.toArray⟩) (by decide) (by rfl)) (by simp))
abbrev keptD (mp : Addr) (b it : Nat) (S U : ByteArray) : List (Nat × Value) := [(1, .string S), (2, .pointer (some mp)), (10, .string U), (20, .pointer (some ⟨b, 0, none⟩)), (287, .pointer (some ⟨it, 0, none⟩))]
set_option maxRecDepth 100000 in
theorem d66_wp {mp : Addr} {b it k : Nat} {r : Nat} {S U : ByteArray} {u n s : Bool} {w : World} {a : Act} {Q : Exit → Act → World → Prop} (hA : St 553 ((288, .tuple #[.bool true, .int .i64 (k : Int), .int .i32 (r : Int)]) :: (22, .bool n) :: (23, .bool s) :: keptD mp b it S U) a)
    (hQ : ∀ a', St 553 [(1, .string S), (2, .pointer (some mp)), (10, .string U), (20, .pointer (some ⟨b, 0, none⟩)), (22, .bool n), (23, .bool s), (24, .int .i64 (k : Int)), (25, .int .i32 (r : Int)), (287, .pointer (some ⟨it, 0, none⟩))] a' → Q .normal a' w) : r66.wp Tryd.prog Q a w := by
  rw [show r66 = Go.Code.region 66 #[{ dst := some 290, op := Go.Op.extract (Go.Operand.tmp 288) 1, type := 3, pos := "encoder.go:964", after := #[], guard := none }, { dst := some 291, op := Go.Op.extract (Go.Operand.tmp 288) 2, type := 21, pos := "encoder.go:964", after := #[{ on := 2, ground := Go.Ground.gcOnly Go.Departure.lateStores }], guard := none }, { dst := some 24, op := Go.Op.assign (Go.Operand.tmp 290), type := 3, pos := "encoder.go:964", after := #[{ on := 0, ground := Go.Ground.data }, { on := 0, ground := Go.Ground.phase }, { on := 1, ground := Go.Ground.textOnly Go.Departure.lateStores }], guard := none }, { dst := some 25, op := Go.Op.assign (Go.Operand.tmp 291), type := 21, pos := "encoder.go:964", after := #[{ on := 1, ground := Go.Ground.data }, { on := 2, ground := Go.Ground.chain }, { on := 0, ground := Go.Ground.phase }, { on := 1, ground := Go.Ground.phase }, { on := 2, ground := Go.Ground.phase }], guard := none }] false by kernel_rfl]
  have h1 := hA.put (d := 290) (v := .int .i64 (k : Int)) (by decide) (by rfl)
  have h2 := h1.put (d := 291) (v := .int .i32 (r : Int)) (by decide) (by rfl)
  have h3 := h2.put (d := 24) (v := .int .i64 (k : Int)) (by decide) (by rfl)
  have h4 := h3.put (d := 25) (v := .int .i32 (r : Int)) (by decide) (by rfl)
  refine wp_region_list (op1 rfl (s_val (r_extract (v := .int .i64 (k : Int)) (st_eval hA List.mem_cons_self) rfl) (op1 rfl (s_val (r_extract (v := .int .i32 (r : Int)) (st_eval (v := .tuple #[.bool true, .int .i64 (k : Int), .int .i32 (r : Int)]) h1 (by simp)) rfl) (op1 rfl (s_assign (st_eval (v := .int .i64 (k : Int)) h2 (by simp)) (op1 rfl (s_assign (st_eval (v := .int .i32 (r : Int)) h3 (by simp)) (op_end ?_)))))))))
  refine hQ _ (st_sub h4 ?_)
  intro p hp
  simp only [List.mem_cons, List.not_mem_nil, or_false] at hp ⊢
  rcases hp with rfl | rfl | rfl | rfl | rfl | rfl | rfl | rfl | rfl <;> simp
end Go.Proofs.YtonmnpmklkbioaaDoor.Sy
/- Decode's statements from its buffer on, as trees (reckoned). -/
namespace Go.Proofs.YtonmnpmklkbioaaDoor.Sy
open Go.RowKit Go.Proofs.YtonmnpmklkbioaaDoorW.PrintWords
set_option linter.unusedVariables false
set_option linter.unusedSimpArgs false
noncomputable def p44 : Code := nth (sp b44) 1
noncomputable def q44 : Code := nth (sp b44) 2
noncomputable def body44 : Code := snd (snd (snd b44))
/-- What is known of a rune that is no error, and whether a quote stood ahead. -/
def knD (u : Bool) : Ae → Option Bool
  | .uq => some u
  | .ff => some false
  | .cmp .eq 65533 => some false
  | _ => none
def knE (u : Bool) : Ae → Option Bool
  | .uq => some u
  | .ff => some false
  | .cmp o c => some (o.on 65533 c)
  | _ => none
abbrev envE : Env Ae := [(1, .atom (.str .S)), (2, .atom .mptr), (10, .atom (.str .U)), (20, .atom .buf), (21, .atom .uq), (22, .atom .ff), (23, .atom .ff), (24, .atom .pos), (25, .atom (.re .r)), (287, .atom .itp)]
abbrev envK : Env Ae := [(1, .atom (.str .S)), (2, .atom .mptr), (10, .atom (.str .U)), (20, .atom .buf), (287, .atom .itp)]
def j11 : DS Ae Eg := (.leaf ⟨.normal, [some (.atom (.str Sb.K)), some (.atom .mptr), some (.atom (.str Sb.P)), some (.atom (.str Sb.U)), some (.atom .idx), some (.atom .buf)], [Eg.gr]⟩)
set_option maxRecDepth 1000000 in
theorem j11_is : (comp0 (rulesE ⟨false, true⟩ 553) (e44 11) [(1, .atom (.str .K)), (2, .atom .mptr), (5, .atom (.str .P)), (10, .atom (.str .U)), (19, .atom .idx), (20, .atom .buf)]).map (fun d => norm (fun _ => none) (strip1 [1, 2, 5, 10, 19, 20] d)) = some j11 := by kernel_rfl
def j12 : DS Ae Eg := (.leaf ⟨.normal, [some (.atom (.str Sb.K)), some (.atom .mptr), some (.atom (.str Sb.P)), some (.atom (.str Sb.U)), some (.atom .idx), some (.atom .buf)], [Eg.st Sb.P]⟩)
set_option maxRecDepth 1000000 in
theorem j12_is : (comp0 (rulesE ⟨false, false⟩ 553) (e44 12) [(1, .atom (.str .K)), (2, .atom .mptr), (5, .atom (.str .P)), (10, .atom (.str .U)), (19, .atom .idx), (20, .atom .buf)]).map (fun d => norm (fun _ => none) (strip1 [1, 2, 5, 10, 19, 20] d)) = some j12 := by kernel_rfl
def j13 : DS Ae Eg := (.leaf ⟨.normal, [some (.atom (.str Sb.K)), some (.atom .mptr), some (.atom (.str Sb.P)), some (.atom (.str Sb.U)), some (.atom .idx), some (.atom .buf)], [Eg.st Sb.klo]⟩)
set_option maxRecDepth 1000000 in
theorem j13_is : (comp0 (rulesE ⟨false, false⟩ 553) (e44 13) [(1, .atom (.str .K)), (2, .atom .mptr), (5, .atom (.str .P)), (10, .atom (.str .U)), (19, .atom .idx), (20, .atom .buf)]).map (fun d => norm (fun _ => none) (strip1 [1, 2, 5, 10, 19, 20] d)) = some j13 := by kernel_rfl
def j14 : DS Ae Eg := (.leaf ⟨.normal, [some (.atom (.str Sb.khi)), some (.atom .mptr), some (.atom (.str Sb.U)), some (.atom .buf)], []⟩)
set_option maxRecDepth 1000000 in
theorem j14_is : (comp0 (rulesE ⟨false, false⟩ 553) (e44 14) [(1, .atom (.str .K)), (2, .atom .mptr), (5, .atom (.str .P)), (10, .atom (.str .U)), (19, .atom .idx), (20, .atom .buf)]).map (fun d => norm (fun _ => none) (strip1 [1, 2, 10, 20] d)) = some j14 := by kernel_rfl
def j15 : DS Ae Eg := (.leaf ⟨.normal, [some (.atom (.str Sb.S)), some (.atom .mptr), some (.atom (.str Sb.U)), some (.atom .buf), some (.lit (.bool false)), some (.lit (.bool false)), some (.lit (.bool false))], []⟩)
set_option maxRecDepth 1000000 in
theorem j15_is : (comp0 (rulesE ⟨false, false⟩ 553) (e44 15) [(1, .atom (.str .S)), (2, .atom .mptr), (10, .atom (.str .U)), (20, .atom .buf)]).map (fun d => norm (fun _ => none) (strip1 [1, 2, 10, 20, 21, 22, 23] d)) = some j15 := by kernel_rfl
def j17 : DS Ae Eg := (.br .uq (.leaf ⟨.normal, [some (.atom (.str Sb.S)), some (.atom .mptr), some (.atom (.str Sb.U)), some (.atom .buf)], [Eg.rn (RE.cst (8219))]⟩) (.leaf ⟨.normal, [some (.atom (.str Sb.S)), some (.atom .mptr), some (.atom (.str Sb.U)), some (.atom .buf)], []⟩))
set_option maxRecDepth 1000000 in
theorem j17_is : (comp0 (rulesE ⟨false, false⟩ 553) (e44 17) [(1, .atom (.str .S)), (2, .atom .mptr), (10, .atom (.str .U)), (20, .atom .buf), (22, .atom .uq)]).map (fun d => norm (fun _ => none) (strip1 [1, 2, 10, 20] d)) = some j17 := by kernel_rfl
def j18 : DS Ae Eg := (.leaf ⟨.normal, [some (.atom .buf)], [Eg.st Sb.U]⟩)
set_option maxRecDepth 1000000 in
theorem j18_is : (comp0 (rulesE ⟨false, false⟩ 553) (e44 18) [(1, .atom (.str .S)), (2, .atom .mptr), (10, .atom (.str .U)), (20, .atom .buf)]).map (fun d => norm (fun _ => none) (strip1 [20] d)) = some j18 := by kernel_rfl
def jS : DS Ae Eg := (.leaf ⟨.exit 2, [some (.atom (.str Sb.S)), some (.atom .mptr), some (.atom (.str Sb.U)), some (.atom .buf), some (.atom .uq), some (.lit (.bool false)), some (.atom .itp)], []⟩)
set_option maxRecDepth 1000000 in
theorem jS_is : (comp0 (rulesE ⟨false, false⟩ 553) (p44) [(1, .atom (.str .S)), (2, .atom .mptr), (10, .atom (.str .U)), (20, .atom .buf), (22, .atom .uq), (24, .atom .pos), (25, .atom (.re .r)), (287, .atom .itp), (23, .lit (.bool true))]).map (fun d => norm (fun _ => none) (strip1 [1, 2, 10, 20, 22, 23, 287] d)) = some jS := by kernel_rfl
def jN : DS Ae Eg := (.leaf ⟨.normal, [some (.atom (.str Sb.S)), some (.atom .mptr), some (.atom (.str Sb.U)), some (.atom .buf), some (.atom .uq), some (.lit (.bool false)), some (.atom .pos), some (.atom (.re RE.r)), some (.atom .itp)], []⟩)
set_option maxRecDepth 1000000 in
theorem jN_is : (comp0 (rulesE ⟨false, false⟩ 553) (p44) [(1, .atom (.str .S)), (2, .atom .mptr), (10, .atom (.str .U)), (20, .atom .buf), (22, .atom .uq), (24, .atom .pos), (25, .atom (.re .r)), (287, .atom .itp), (23, .lit (.bool false))]).map (fun d => norm (fun _ => none) (strip1 [1, 2, 10, 20, 22, 23, 24, 25, 287] d)) = some jN := by kernel_rfl
def jQ : DS Ae Eg := (.leaf ⟨.normal, [some (.atom (.str Sb.S)), some (.atom .mptr), some (.atom (.str Sb.U)), some (.atom .buf), some (.atom .uq), some (.lit (.bool false)), some (.lit (.bool false)), some (.atom .pos), some (.atom (.re RE.r)), some (.atom .itp)], []⟩)
set_option maxRecDepth 1000000 in
theorem jQ_is : (comp0 (rulesE ⟨false, false⟩ 553) (q44) [(1, .atom (.str .S)), (2, .atom .mptr), (10, .atom (.str .U)), (20, .atom .buf), (22, .atom .uq), (24, .atom .pos), (25, .atom (.re .r)), (287, .atom .itp), (23, .lit (.bool false))]).map (fun d => norm (fun _ => none) (strip1 [1, 2, 10, 20, 21, 22, 23, 24, 25, 287] d)) = some jQ := by kernel_rfl
def hT : List (DS Ae Eg) := [.br (.cmp Cm.eq (9216)) (.leaf ⟨.exit 2, [some (.atom .ff), some (.atom .ff)], [Eg.rn RE.r]⟩) (.br (.cmp Cm.eq (8219)) (.leaf ⟨.exit 2, [some (.atom .ff), some (.atom .ff)], [Eg.rn RE.r]⟩) (.leaf ⟨.normal, [], []⟩)), .br (.has (512)) (.br (.cmp Cm.eq (65290)) (.leaf ⟨.exit 2, [some (.atom .ff), some (.atom .ff)], [Eg.rn RE.r]⟩) (.leaf ⟨.normal, [], []⟩)) (.leaf ⟨.normal, [], []⟩), .br (.has (4)) (.br (.cmp Cm.eq (65308)) (.leaf ⟨.exit 2, [some (.atom .ff), some (.atom .ff)], [Eg.rn RE.r]⟩) (.br (.cmp Cm.eq (65310)) (.leaf ⟨.exit 2, [some (.atom .ff), some (.atom .ff)], [Eg.rn RE.r]⟩) (.leaf ⟨.normal, [], []⟩))) (.leaf ⟨.normal, [], []⟩), .br (.has (67108864)) (.br (.cmp Cm.eq (65339)) (.leaf ⟨.exit 2, [some (.atom .ff), some (.atom .ff)], [Eg.rn RE.r]⟩) (.br (.cmp Cm.eq (65341)) (.leaf ⟨.exit 2, [some (.atom .ff), some (.atom .ff)], [Eg.rn RE.r]⟩) (.leaf ⟨.normal, [], []⟩))) (.leaf ⟨.normal, [], []⟩), .br (.has (134217728)) (.br (.cmp Cm.eq (65307)) (.leaf ⟨.exit 2, [some (.atom .ff), some (.atom .ff)], [Eg.rn RE.r]⟩) (.leaf ⟨.normal, [], []⟩)) (.leaf ⟨.normal, [], []⟩), .br (.has (268435456)) (.br (.cmp Cm.eq (65281)) (.leaf ⟨.exit 2, [some (.atom .ff), some (.atom .ff)], [Eg.rn RE.r]⟩) (.leaf ⟨.normal, [], []⟩)) (.leaf ⟨.normal, [], []⟩), .br (.has (256)) (.br (.cmp Cm.eq (65311)) (.leaf ⟨.exit 2, [some (.atom .ff), some (.atom .ff)], [Eg.rn RE.r]⟩) (.leaf ⟨.normal, [], []⟩)) (.leaf ⟨.normal, [], []⟩), .br (.has (128)) (.br (.cmp Cm.eq (65306)) (.leaf ⟨.exit 2, [some (.atom .ff), some (.atom .ff)], [Eg.rn RE.r]⟩) (.leaf ⟨.normal, [], []⟩)) (.leaf ⟨.normal, [], []⟩), .br (.has (1024)) (.br (.cmp Cm.eq (65372)) (.leaf ⟨.exit 2, [some (.atom .ff), some (.atom .ff)], [Eg.rn RE.r]⟩) (.leaf ⟨.normal, [], []⟩)) (.leaf ⟨.normal, [], []⟩), .br (.has (8)) (.br (.cmp Cm.eq (65282)) (.leaf ⟨.exit 2, [some (.atom .ff), some (.atom .ff)], [Eg.rn RE.r]⟩) (.leaf ⟨.normal, [], []⟩)) (.leaf ⟨.normal, [], []⟩), .br (.has (16)) (.br (.cmp Cm.eq (65287)) (.leaf ⟨.exit 2, [some (.atom .ff), some (.atom .ff)], [Eg.rn RE.r]⟩) (.leaf ⟨.normal, [], []⟩)) (.leaf ⟨.normal, [], []⟩), .br (.has (32)) (.br (.cmp Cm.eq (65344)) (.leaf ⟨.exit 2, [some (.atom .ff), some (.atom .ff)], [Eg.rn RE.r]⟩) (.leaf ⟨.normal, [], []⟩)) (.leaf ⟨.normal, [], []⟩), .br (.has (64)) (.br (.cmp Cm.eq (65284)) (.leaf ⟨.exit 2, [some (.atom .ff), some (.atom .ff)], [Eg.rn RE.r]⟩) (.leaf ⟨.normal, [], []⟩)) (.leaf ⟨.normal, [], []⟩), .br (.has (2)) (.br (.cmp Cm.eq (65295)) (.leaf ⟨.exit 2, [some (.atom .ff), some (.atom .ff)], [Eg.rn RE.r]⟩) (.leaf ⟨.normal, [], []⟩)) (.leaf ⟨.normal, [], []⟩), .br (.has (8192)) (.br (.cmp Cm.eq (65340)) (.leaf ⟨.exit 2, [some (.atom .ff), some (.atom .ff)], [Eg.rn RE.r]⟩) (.leaf ⟨.normal, [], []⟩)) (.leaf ⟨.normal, [], []⟩), .br (.has (16384)) (.br (.cmp Cm.eq (9229)) (.leaf ⟨.exit 2, [some (.atom .ff), some (.atom .ff)], [Eg.rn RE.r]⟩) (.br (.cmp Cm.eq (9226)) (.leaf ⟨.exit 2, [some (.atom .ff), some (.atom .ff)], [Eg.rn RE.r]⟩) (.leaf ⟨.normal, [], []⟩))) (.leaf ⟨.normal, [], []⟩), .br (.has (2048)) (.br (.cmp Cm.eq (65283)) (.leaf ⟨.exit 2, [some (.atom .ff), some (.atom .ff)], [Eg.rn RE.r]⟩) (.leaf ⟨.normal, [], []⟩)) (.leaf ⟨.normal, [], []⟩), .br (.has (4096)) (.br (.cmp Cm.eq (65285)) (.leaf ⟨.exit 2, [some (.atom .ff), some (.atom .ff)], [Eg.rn RE.r]⟩) (.leaf ⟨.normal, [], []⟩)) (.leaf ⟨.normal, [], []⟩), .br (.has (32768)) (.br (.cmp Cm.eq (9249)) (.leaf ⟨.exit 2, [some (.atom .ff), some (.atom .ff)], [Eg.rn RE.r]⟩) (.leaf ⟨.normal, [], []⟩)) (.leaf ⟨.normal, [], []⟩), .br (.has (65536)) (.br (.cmp Cm.gt (9216)) (.br (.cmp Cm.le (9247)) (.leaf ⟨.exit 2, [some (.atom .ff), some (.atom .ff)], [Eg.rn RE.r]⟩) (.leaf ⟨.normal, [], []⟩)) (.leaf ⟨.normal, [], []⟩)) (.leaf ⟨.normal, [], []⟩), .br (.has (16777216)) (.br .unq (.leaf ⟨.exit 2, [some (.atom .ff), some (.atom .unq)], [Eg.ub]⟩) (.leaf ⟨.normal, [some (.atom .ff), some (.atom .unq)], [Eg.ub, Eg.rn (RE.cst (8219)), Eg.rn RE.r]⟩)) (.leaf ⟨.normal, [some (.atom .ff), some (.atom .ff)], [Eg.rn (RE.cst (8219)), Eg.rn RE.r]⟩)]
set_option maxRecDepth 1000000 in
theorem hT_is : (topK (rulesE ⟨false, false⟩ 553) 20 body44 envE).map (fun Ds => (Ds.all (allKeep envK) && !Ds.isEmpty, (strips [22, 23] Ds).map (norm (knD true)))) = some (true, hT) := by kernel_rfl
def hF : List (DS Ae Eg) := [.br (.cmp Cm.eq (9216)) (.leaf ⟨.exit 2, [some (.atom .ff), some (.atom .ff)], [Eg.rn (RE.cst (0))]⟩) (.br (.cmp Cm.eq (8219)) (.leaf ⟨.exit 2, [some (.lit (.bool true)), some (.atom .ff)], []⟩) (.leaf ⟨.normal, [], []⟩)), .br (.has (512)) (.br (.cmp Cm.eq (65290)) (.leaf ⟨.exit 2, [some (.atom .ff), some (.atom .ff)], [Eg.rn (RE.sub (65248))]⟩) (.leaf ⟨.normal, [], []⟩)) (.leaf ⟨.normal, [], []⟩), .br (.has (4)) (.br (.cmp Cm.eq (65308)) (.leaf ⟨.exit 2, [some (.atom .ff), some (.atom .ff)], [Eg.rn (RE.sub (65248))]⟩) (.br (.cmp Cm.eq (65310)) (.leaf ⟨.exit 2, [some (.atom .ff), some (.atom .ff)], [Eg.rn (RE.sub (65248))]⟩) (.leaf ⟨.normal, [], []⟩))) (.leaf ⟨.normal, [], []⟩), .br (.has (67108864)) (.br (.cmp Cm.eq (65339)) (.leaf ⟨.exit 2, [some (.atom .ff), some (.atom .ff)], [Eg.rn (RE.sub (65248))]⟩) (.br (.cmp Cm.eq (65341)) (.leaf ⟨.exit 2, [some (.atom .ff), some (.atom .ff)], [Eg.rn (RE.sub (65248))]⟩) (.leaf ⟨.normal, [], []⟩))) (.leaf ⟨.normal, [], []⟩), .br (.has (134217728)) (.br (.cmp Cm.eq (65307)) (.leaf ⟨.exit 2, [some (.atom .ff), some (.atom .ff)], [Eg.rn (RE.sub (65248))]⟩) (.leaf ⟨.normal, [], []⟩)) (.leaf ⟨.normal, [], []⟩), .br (.has (268435456)) (.br (.cmp Cm.eq (65281)) (.leaf ⟨.exit 2, [some (.atom .ff), some (.atom .ff)], [Eg.rn (RE.sub (65248))]⟩) (.leaf ⟨.normal, [], []⟩)) (.leaf ⟨.normal, [], []⟩), .br (.has (256)) (.br (.cmp Cm.eq (65311)) (.leaf ⟨.exit 2, [some (.atom .ff), some (.atom .ff)], [Eg.rn (RE.sub (65248))]⟩) (.leaf ⟨.normal, [], []⟩)) (.leaf ⟨.normal, [], []⟩), .br (.has (128)) (.br (.cmp Cm.eq (65306)) (.leaf ⟨.exit 2, [some (.atom .ff), some (.atom .ff)], [Eg.rn (RE.sub (65248))]⟩) (.leaf ⟨.normal, [], []⟩)) (.leaf ⟨.normal, [], []⟩), .br (.has (1024)) (.br (.cmp Cm.eq (65372)) (.leaf ⟨.exit 2, [some (.atom .ff), some (.atom .ff)], [Eg.rn (RE.sub (65248))]⟩) (.leaf ⟨.normal, [], []⟩)) (.leaf ⟨.normal, [], []⟩), .br (.has (8)) (.br (.cmp Cm.eq (65282)) (.leaf ⟨.exit 2, [some (.atom .ff), some (.atom .ff)], [Eg.rn (RE.sub (65248))]⟩) (.leaf ⟨.normal, [], []⟩)) (.leaf ⟨.normal, [], []⟩), .br (.has (16)) (.br (.cmp Cm.eq (65287)) (.leaf ⟨.exit 2, [some (.atom .ff), some (.atom .ff)], [Eg.rn (RE.sub (65248))]⟩) (.leaf ⟨.normal, [], []⟩)) (.leaf ⟨.normal, [], []⟩), .br (.has (32)) (.br (.cmp Cm.eq (65344)) (.leaf ⟨.exit 2, [some (.atom .ff), some (.atom .ff)], [Eg.rn (RE.sub (65248))]⟩) (.leaf ⟨.normal, [], []⟩)) (.leaf ⟨.normal, [], []⟩), .br (.has (64)) (.br (.cmp Cm.eq (65284)) (.leaf ⟨.exit 2, [some (.atom .ff), some (.atom .ff)], [Eg.rn (RE.sub (65248))]⟩) (.leaf ⟨.normal, [], []⟩)) (.leaf ⟨.normal, [], []⟩), .br (.has (2)) (.br (.cmp Cm.eq (65295)) (.leaf ⟨.exit 2, [some (.atom .ff), some (.atom .ff)], [Eg.rn (RE.sub (65248))]⟩) (.leaf ⟨.normal, [], []⟩)) (.leaf ⟨.normal, [], []⟩), .br (.has (8192)) (.br (.cmp Cm.eq (65340)) (.leaf ⟨.exit 2, [some (.atom .ff), some (.atom .ff)], [Eg.rn (RE.sub (65248))]⟩) (.leaf ⟨.normal, [], []⟩)) (.leaf ⟨.normal, [], []⟩), .br (.has (16384)) (.br (.cmp Cm.eq (9229)) (.leaf ⟨.exit 2, [some (.atom .ff), some (.atom .ff)], [Eg.rn (RE.sub (9216))]⟩) (.br (.cmp Cm.eq (9226)) (.leaf ⟨.exit 2, [some (.atom .ff), some (.atom .ff)], [Eg.rn (RE.sub (9216))]⟩) (.leaf ⟨.normal, [], []⟩))) (.leaf ⟨.normal, [], []⟩), .br (.has (2048)) (.br (.cmp Cm.eq (65283)) (.leaf ⟨.exit 2, [some (.atom .ff), some (.atom .ff)], [Eg.rn (RE.sub (65248))]⟩) (.leaf ⟨.normal, [], []⟩)) (.leaf ⟨.normal, [], []⟩), .br (.has (4096)) (.br (.cmp Cm.eq (65285)) (.leaf ⟨.exit 2, [some (.atom .ff), some (.atom .ff)], [Eg.rn (RE.sub (65248))]⟩) (.leaf ⟨.normal, [], []⟩)) (.leaf ⟨.normal, [], []⟩), .br (.has (32768)) (.br (.cmp Cm.eq (9249)) (.leaf ⟨.exit 2, [some (.atom .ff), some (.atom .ff)], [Eg.rn (RE.cst (127))]⟩) (.leaf ⟨.normal, [], []⟩)) (.leaf ⟨.normal, [], []⟩), .br (.has (65536)) (.br (.cmp Cm.gt (9216)) (.br (.cmp Cm.le (9247)) (.leaf ⟨.exit 2, [some (.atom .ff), some (.atom .ff)], [Eg.rn (RE.sub (9216))]⟩) (.leaf ⟨.normal, [], []⟩)) (.leaf ⟨.normal, [], []⟩)) (.leaf ⟨.normal, [], []⟩), .leaf ⟨.normal, [some (.atom .ff), some (.atom .ff)], [Eg.rn RE.r]⟩]
set_option maxRecDepth 1000000 in
theorem hF_is : (topK (rulesE ⟨false, false⟩ 553) 20 body44 envE).map (fun Ds => (Ds.all (allKeep envK) && !Ds.isEmpty, (strips [22, 23] Ds).map (norm (knD false)))) = some (true, hF) := by kernel_rfl
def eT : List (DS Ae Eg) := [.leaf ⟨.normal, [], []⟩, .leaf ⟨.normal, [], []⟩, .leaf ⟨.normal, [], []⟩, .leaf ⟨.normal, [], []⟩, .leaf ⟨.normal, [], []⟩, .leaf ⟨.normal, [], []⟩, .leaf ⟨.normal, [], []⟩, .leaf ⟨.normal, [], []⟩, .leaf ⟨.normal, [], []⟩, .leaf ⟨.normal, [], []⟩, .leaf ⟨.normal, [], []⟩, .leaf ⟨.normal, [], []⟩, .leaf ⟨.normal, [], []⟩, .leaf ⟨.normal, [], []⟩, .leaf ⟨.normal, [], []⟩, .leaf ⟨.normal, [], []⟩, .leaf ⟨.normal, [], []⟩, .leaf ⟨.normal, [], []⟩, .leaf ⟨.normal, [], []⟩, .leaf ⟨.normal, [], []⟩, .br (.has (16777216)) (.br .unq (.leaf ⟨.exit 2, [some (.atom .ff), some (.atom .unq)], [Eg.ub]⟩) (.leaf ⟨.exit 2, [some (.atom .ff), some (.atom .unq)], [Eg.ub, Eg.rn (RE.cst (8219)), Eg.st Sb.subw]⟩)) (.leaf ⟨.exit 2, [some (.atom .ff), some (.atom .ff)], [Eg.rn (RE.cst (8219)), Eg.st Sb.subw]⟩)]
set_option maxRecDepth 1000000 in
theorem eT_is : (topK (rulesE ⟨false, false⟩ 553) 20 body44 envE).map (fun Ds => (Ds.all (allKeep envK) && !Ds.isEmpty, (strips [22, 23] Ds).map (norm (knE true)))) = some (true, eT) := by kernel_rfl
def eF : List (DS Ae Eg) := [.leaf ⟨.normal, [], []⟩, .leaf ⟨.normal, [], []⟩, .leaf ⟨.normal, [], []⟩, .leaf ⟨.normal, [], []⟩, .leaf ⟨.normal, [], []⟩, .leaf ⟨.normal, [], []⟩, .leaf ⟨.normal, [], []⟩, .leaf ⟨.normal, [], []⟩, .leaf ⟨.normal, [], []⟩, .leaf ⟨.normal, [], []⟩, .leaf ⟨.normal, [], []⟩, .leaf ⟨.normal, [], []⟩, .leaf ⟨.normal, [], []⟩, .leaf ⟨.normal, [], []⟩, .leaf ⟨.normal, [], []⟩, .leaf ⟨.normal, [], []⟩, .leaf ⟨.normal, [], []⟩, .leaf ⟨.normal, [], []⟩, .leaf ⟨.normal, [], []⟩, .leaf ⟨.normal, [], []⟩, .leaf ⟨.exit 2, [some (.atom .ff), some (.atom .ff)], [Eg.st Sb.subw]⟩]
set_option maxRecDepth 1000000 in
theorem eF_is : (topK (rulesE ⟨false, false⟩ 553) 20 body44 envE).map (fun Ds => (Ds.all (allKeep envK) && !Ds.isEmpty, (strips [22, 23] Ds).map (norm (knE false)))) = some (true, eF) := by kernel_rfl
end Go.Proofs.YtonmnpmklkbioaaDoor.Sy
/- What Decode does at one unit of a string, and that its loop's body does so. -/
namespace Go.Proofs.YtonmnpmklkbioaaDoor.Sy
open Go.RowKit Go.Proofs.YtonmnpmklkbioaaDoorW.PrintWords
set_option linter.unusedVariables false
set_option linter.unusedSimpArgs false
def isBoolE : Option (E Ae) → Bool
  | some (.lit (.bool _)) => true
  | some (.atom t) => isBe t
  | _ => false
def eB (B : Ae → Bool) : Option (E Ae) → Bool
  | some (.lit (.bool b)) => b
  | some (.atom t) => B t
  | _ => false
def goodX : Ex → Bool
  | .normal => true
  | .exit 2 => true
  | _ => false
def goodL (l : Lf Ae Eg) : Bool := goodX l.x && (match l.es with
  | [a, b] => isBoolE a && isBoolE b
  | _ => false) && Nat.ble l.tr.length 4
def midOk : DS Ae Eg → Bool
  | .leaf ⟨.normal, [], []⟩ => true
  | .leaf ⟨.exit n, es, tr⟩ => goodL ⟨.exit n, es, tr⟩
  | .leaf _ => false
  | .br _ a b => midOk a && midOk b
def lastOk : DS Ae Eg → Bool
  | .leaf l => goodL l
  | .br _ a b => lastOk a && lastOk b
def okD : List (DS Ae Eg) → Bool
  | [] => false
  | [d] => lastOk d
  | d :: ds => midOk d && okD ds
theorem midOk_run (B : Ae → Bool) : ∀ d : DS Ae Eg, midOk d = true → d.run B = ⟨.normal, [], []⟩ ∨ (∃ n, (d.run B).x = .exit n) ∧ goodL (d.run B) = true
  | .leaf ⟨.normal, es, tr⟩, h => by
    unfold midOk at h
    split at h
    · rename_i heq; cases heq; exact .inl rfl
    · rename_i heq; cases heq
    · cases h
    · rename_i heq; cases heq
  | .leaf ⟨.exit n, es, tr⟩, h => .inr ⟨⟨n, rfl⟩, h⟩
  | .leaf ⟨.ret, es, tr⟩, h => by cases h
  | .leaf ⟨.bad, es, tr⟩, h => by cases h
  | .br t a b, h => by
    simp only [midOk, Bool.and_eq_true] at h
    simp only [DS.run]
    cases B t with
    | true => exact midOk_run B a h.1
    | false => exact midOk_run B b h.2
theorem lastOk_run (B : Ae → Bool) : ∀ d : DS Ae Eg, lastOk d = true → goodL (d.run B) = true
  | .leaf l, h => h
  | .br t a b, h => by
    simp only [lastOk, Bool.and_eq_true] at h
    simp only [DS.run]
    cases B t with
    | true => exact lastOk_run B a h.1
    | false => exact lastOk_run B b h.2
theorem okD_run (B : Ae → Bool) : ∀ ds : List (DS Ae Eg), okD ds = true → goodL (runS B ds) = true
  | [], h => by cases h
  | [d], h => lastOk_run B d h
  | d :: d2 :: l, h => by
    have h' : (midOk d && okD (d2 :: l)) = true := h
    rw [Bool.and_eq_true] at h'
    have h2 := okD_run B (d2 :: l) h'.2
    rcases midOk_run B d h'.1 with h1 | ⟨⟨n, h1⟩, h3⟩
    · simp only [runS, h1]; exact h2
    · obtain ⟨o, ho⟩ : ∃ o, d.run B = o := ⟨_, rfl⟩
      rw [ho] at h1 h3
      obtain ⟨x, es, tr⟩ := o
      cases h1
      simp only [runS, ho]
      exact h3
theorem goodL_out {l : Lf Ae Eg} (h : goodL l = true) : (l.x = .normal ∨ l.x = .exit 2) ∧ (∃ a b, l.es = [a, b] ∧ isBoolE a = true ∧ isBoolE b = true) ∧ l.tr.length ≤ 4 := by
  obtain ⟨x, es, tr⟩ := l
  simp only [goodL, Bool.and_eq_true] at h
  obtain ⟨⟨h1, h2⟩, h3⟩ := h
  refine ⟨?_, ?_, Nat.le_of_ble_eq_true h3⟩
  · unfold goodX at h1
    split at h1
    · exact .inl rfl
    · exact .inr rfl
    · cases h1
  · split at h2
    · rename_i a b
      rw [Bool.and_eq_true] at h2
      exact ⟨a, b, rfl, h2.1, h2.2⟩
    · cases h2
theorem isBoolE_val {x : Ce} {e : Option (E Ae)} (h : isBoolE e = true) : e.map (E.val x.V) = some (.bool (eB x.B e)) := by
  unfold isBoolE at h
  split at h
  · rfl
  · rename_i t
    have : x.V t = .bool (x.B t) := by cases t <;> first | rfl | cases h
    simp only [Option.map_some, E.val, this, eB]
  · cases h
theorem viaE (x : Ce) (hx : OkE x) (hfl : x.fl = ⟨false, false⟩) {ds : List (DS Ae Eg)} {known : Ae → Option Bool} (hch : (topK (rulesE ⟨false, false⟩ 553) 20 body44 envE).map (fun Ds => (Ds.all (allKeep envK) && !Ds.isEmpty, (strips [22, 23] Ds).map (norm known))) = some (true, ds)) (hk : ∀ t v, known t = some v → x.B t = v)
    (hok : okD ds = true) {out : List UInt8} (hby : x.bytes (runS x.B ds).tr = out) {nx sk : Bool} (hnx : eB x.B ((runS x.B ds).es.getD 0 none) = nx) (hsk : eB x.B ((runS x.B ds).es.getD 1 none) = sk) {wB : World} (hw : WorldOk wB x.mp x.m) (hes : ErrOk wB) (hB : wB.heap.size ≤ x.b) {acc : List UInt8} (hacc : acc.length ≤ 35184372088832) {pn : Nat} {a : Act} {w : World} {Q : Exit → Act → World → Prop}
    (hA : St 553 (envE.map fun p => (p.1, p.2.val x.V)) a) (hlow : Below wB.heap.size wB w) (hI : Lib.IsBuffer 71 5 wB.heap.size x.b (Lib.byteCells acc) w) (hit : x.it ≠ x.b ∧ w.heap[x.it]? = some (.stringIter x.S pn))
    (hQ : ∀ a' w' e, (e = .normal ∨ e = .exit 2) → St 553 ((22, .bool nx) :: (23, .bool sk) :: keptD x.mp x.b x.it x.S x.U) a' → Below wB.heap.size wB w' → Lib.IsBuffer 71 5 wB.heap.size x.b (Lib.byteCells (acc ++ out)) w' → w'.heap[x.it]? = some (.stringIter x.S pn) → Q e a' w') : body44.wp Tryd.prog Q a w := by
  have hR : Re x wB acc (some pn) [] w := ⟨hlow, by rw [if_neg (by rw [hfl]; simp)]; simpa [Ce.bytes] using hI, fun p hp => by cases hp; exact hit⟩
  have hg := goodL_out (okD_run x.B ds hok)
  have hS := soundE 553 x hx wB hw hes acc hacc (some pn) (fun h => by rw [hfl] at h; cases h) hB
  rw [hfl] at hS
  refine chain2_wp hS hch hk (by rcases hg.1 with h | h <;> (rw [h]; intro e; cases e)) hA hR (fun a' w' env' hF hF' hes' hR' => ?_)
  have hbuf := hR'.buf
  rw [if_neg (by rw [hfl]; simp), hby] at hbuf
  obtain ⟨e1, e2, he, b1, b2⟩ := hg.2.1
  rw [he] at hnx hsk hes'
  refine hQ a' w' _ ?_ ⟨hF.df, hF.sz, ?_⟩ hR'.low hbuf (hR'.it pn rfl).2
  · rcases hg.1 with h | h <;> rw [h]
    · exact .inl rfl
    · exact .inr rfl
  · simp only [List.map_cons, List.map_nil, List.cons.injEq, and_true] at hes'
    intro p hp
    simp only [List.mem_cons, List.not_mem_nil, or_false] at hp
    rcases hp with rfl | rfl | rfl | rfl | rfl | rfl | rfl
    · exact hF'.tmp (k := 22) hes'.1 (by rw [isBoolE_val b1]; exact congrArg (fun b => some (Value.bool b)) hnx)
    · exact hF'.tmp (k := 23) hes'.2 (by rw [isBoolE_val b2]; exact congrArg (fun b => some (Value.bool b)) hsk)
    · exact hF.tmp (k := 1) rfl rfl
    · exact hF.tmp (k := 2) rfl rfl
    · exact hF.tmp (k := 10) rfl rfl
    · exact hF.tmp (k := 20) rfl rfl
    · exact hF.tmp (k := 287) rfl rfl
/-- The letters' truth. -/
def BmrE (m r : Int) (u q : Bool) : Ae → Bool
  | .has b => hasB m b
  | .cmp o c => o.on r c
  | .uq => u
  | .unq => q
  | _ => false
theorem BE_eq (x : Ce) : x.B = BmrE x.m x.r x.uq (unqB (x.S.extract x.pos x.S.size)).isSome := by funext t; cases t <;> rfl
/-- What is done at a rune: behind a quote or not. -/
def treesD (u er : Bool) : List (DS Ae Eg) := bif er then (bif u then eT else eF) else (bif u then hT else hF)
def leafD (m : Int) (u : Bool) (S : ByteArray) (p : Nat) : Lf Ae Eg := runS (BmrE m ((Utf8.decode S p).1 : Int) u (unqB (S.extract p S.size)).isSome) (treesD u (Nat.beq (Utf8.decode S p).1 65533))
def ebD (r : Int) (S : ByteArray) (p : Nat) : Eg → List UInt8
  | .rn y => Lib.encodeRune (y.int r)
  | .ub => (unqB (S.extract p S.size)).toList
  | .st .subw => (S.extract p (p + (Utf8.decode S p).2)).data.toList
  | _ => []
def outD (m : Int) (u : Bool) (S : ByteArray) (p : Nat) : List UInt8 := ((leafD m u S p).tr.map (ebD ((Utf8.decode S p).1 : Int) S p)).flatten
def nxD (m : Int) (u : Bool) (S : ByteArray) (p : Nat) : Bool := eB (BmrE m ((Utf8.decode S p).1 : Int) u (unqB (S.extract p S.size)).isSome) ((leafD m u S p).es.getD 0 none)
def skD (m : Int) (u : Bool) (S : ByteArray) (p : Nat) : Bool := eB (BmrE m ((Utf8.decode S p).1 : Int) u (unqB (S.extract p S.size)).isSome) ((leafD m u S p).es.getD 1 none)
def stOk : DS Ae Eg → Bool
  | .leaf l => l.tr.all fun
    | .rn _ => true
    | .ub => true
    | .st .subw => true
    | _ => false
  | .br _ a b => stOk a && stOk b
theorem stOk_run (B : Ae → Bool) : ∀ d : DS Ae Eg, stOk d = true → ∀ e ∈ (d.run B).tr, (∃ y, e = .rn y) ∨ e = .ub ∨ e = .st .subw
  | .leaf l, h => by
    intro e he
    have h2 := List.all_eq_true.1 h e he
    split at h2
    · exact .inl ⟨_, rfl⟩
    · exact .inr (.inl rfl)
    · exact .inr (.inr rfl)
    · cases h2
  | .br t a b, h => by
    simp only [stOk, Bool.and_eq_true] at h
    simp only [DS.run]
    cases B t with
    | true => exact stOk_run B a h.1
    | false => exact stOk_run B b h.2
theorem stOk_runS (B : Ae → Bool) : ∀ ds : List (DS Ae Eg), ds.all stOk = true → ∀ e ∈ (runS B ds).tr, (∃ y, e = .rn y) ∨ e = .ub ∨ e = .st .subw
  | [], _ => fun e he => by cases he
  | [d], h => by
    simp only [List.all_cons, List.all_nil, Bool.and_true] at h
    exact stOk_run B d h
  | d :: d2 :: l, h => by
    rw [List.all_cons, Bool.and_eq_true] at h
    have h1 := stOk_run B d h.1
    have h2 := stOk_runS B (d2 :: l) h.2
    obtain ⟨o, ho⟩ : ∃ o, d.run B = o := ⟨_, rfl⟩
    rw [ho] at h1
    obtain ⟨x, es, tr⟩ := o
    cases x with
    | normal =>
      simp only [runS, ho]
      intro e he
      rcases List.mem_append.1 he with he | he
      · exact h1 e he
      · exact h2 e he
    | exit n => simp only [runS, ho]; exact h1
    | ret => simp only [runS, ho]; exact h1
    | bad => simp only [runS, ho]; exact h1
theorem treesD_ok (u er : Bool) : okD (treesD u er) = true ∧ (treesD u er).all stOk = true := by
  cases u <;> cases er <;> exact ⟨by kernel_rfl, by kernel_rfl⟩
theorem outD_le (m : Int) (u : Bool) (S : ByteArray) (p : Nat) (hp : p < S.size) : (outD m u S p).length ≤ 160 := by
  have hg := goodL_out (okD_run (BmrE m ((Utf8.decode S p).1 : Int) u (unqB (S.extract p S.size)).isSome) _ (treesD_ok u (Nat.beq (Utf8.decode S p).1 65533)).1)
  have h1 : ∀ e, (ebD ((Utf8.decode S p).1 : Int) S p e).length ≤ 4 := by
    intro e
    cases e with
    | gr => exact Nat.zero_le _
    | rn y => exact rune_le _
    | ub =>
      show (unqB (S.extract p S.size)).toList.length ≤ 4
      cases unqB (S.extract p S.size) <;> simp
    | st s =>
      cases s
      case subw =>
        have h4 := Lib.decodeGo_le4 (S.extract p S.size)
        rw [Lib.decodeGo_extract S p hp] at h4
        have h0 : (S.extract p (p + (Utf8.decode S p).2)).data.toList.length = (S.extract p (p + (Utf8.decode S p).2)).size := Array.length_toList
        show (S.extract p (p + (Utf8.decode S p).2)).data.toList.length ≤ 4
        rw [h0, ByteArray.size_extract]
        omega
      all_goals exact Nat.zero_le _
  have key : ∀ tr : List Eg, ((tr.map (ebD ((Utf8.decode S p).1 : Int) S p)).flatten).length ≤ 4 * tr.length := by
    intro tr
    induction tr with
    | nil => exact Nat.zero_le _
    | cons e tr ih =>
      rw [List.map_cons, List.flatten_cons, List.length_append, List.length_cons]
      have := h1 e
      omega
  have := key (leafD m u S p).tr
  have h2 := hg.2.2
  unfold outD leafD at *
  omega
theorem knD_ok (x : Ce) (hr : x.r ≠ 65533) : ∀ t v, knD x.uq t = some v → x.B t = v := by
  intro t v h
  unfold knD at h
  split at h
  · cases h; rfl
  · cases h; rfl
  · cases h
    show (x.r == 65533) = false
    simpa using hr
  · cases h
theorem knE_ok (x : Ce) (hr : x.r = 65533) : ∀ t v, knE x.uq t = some v → x.B t = v := by
  intro t v h
  unfold knE at h
  split at h
  · cases h; rfl
  · cases h; rfl
  · cases h
    show Cm.on x.r _ _ = _
    rw [hr]
  · cases h
theorem unitD_wp {mp : Addr} {m : Int} {b it : Nat} {S U : ByteArray} {p : Nat} {u : Bool} {wB : World} (hw : WorldOk wB mp m) (hes : ErrOk wB) (hB : wB.heap.size ≤ b) (hS : S.size ≤ 17592186044416) (hU : U.size ≤ 7) (hp : p < S.size) {acc : List UInt8} (hacc : acc.length ≤ 35184372088832) {pn : Nat} {a : Act} {w : World} {Q : Exit → Act → World → Prop}
    (hA : St 553 [(1, .string S), (2, .pointer (some mp)), (10, .string U), (20, .pointer (some ⟨b, 0, none⟩)), (21, .bool u), (22, .bool false), (23, .bool false), (24, .int .i64 (p : Int)), (25, .int .i32 ((Utf8.decode S p).1 : Int)), (287, .pointer (some ⟨it, 0, none⟩))] a)
    (hlow : Below wB.heap.size wB w) (hI : Lib.IsBuffer 71 5 wB.heap.size b (Lib.byteCells acc) w) (hit : it ≠ b ∧ w.heap[it]? = some (.stringIter S pn))
    (hQ : ∀ a' w' e, (e = .normal ∨ e = .exit 2) → St 553 ((22, .bool (nxD m u S p)) :: (23, .bool (skD m u S p)) :: keptD mp b it S U) a' → Below wB.heap.size wB w' → Lib.IsBuffer 71 5 wB.heap.size b (Lib.byteCells (acc ++ outD m u S p)) w' → w'.heap[it]? = some (.stringIter S pn) → Q e a' w') : body44.wp Tryd.prog Q a w := by
  have hd : Lib.decodeGo (S.extract p S.size) = Utf8.decode S p := Lib.decodeGo_extract S p hp
  have hle := decode_le S p
  let x : Ce := ⟨mp, m, b, it, ((Utf8.decode S p).1 : Int), noB, noB, U, S, 0, p, u, ⟨false, false⟩⟩
  have hx : OkE x := by
    refine ⟨Nat.zero_le _, Nat.zero_le _, Nat.le_trans hU (by decide), hS, rfl, fun _ => ⟨Int.le_refl _, Int.le_refl _⟩, Nat.le_of_lt hp, ?_⟩
    show -2147483648 ≤ ((Utf8.decode S p).1 : Int) ∧ ((Utf8.decode S p).1 : Int) ≤ 2147483647
    omega
  have hby : ∀ ds : List (DS Ae Eg), ds.all stOk = true → x.bytes (runS x.B ds).tr = ((runS x.B ds).tr.map (ebD ((Utf8.decode S p).1 : Int) S p)).flatten := by
    intro ds hst
    have h := stOk_runS x.B ds hst
    obtain ⟨tr, htr⟩ : ∃ tr, (runS x.B ds).tr = tr := ⟨_, rfl⟩
    rw [htr] at h ⊢
    unfold Ce.bytes
    congr 1
    apply List.map_congr_left
    intro e he
    rcases h e he with ⟨y, rfl⟩ | rfl | rfl
    · rfl
    · rfl
    · show (S.extract p (p + (Lib.decodeGo (S.extract p S.size)).2)).data.toList = _
      rw [hd]
      rfl
  have hBE : x.B = BmrE m ((Utf8.decode S p).1 : Int) u (unqB (S.extract p S.size)).isSome := BE_eq x
  by_cases hr : (Utf8.decode S p).1 = 65533
  · have hr1 : Nat.beq (Utf8.decode S p).1 65533 = true := by rw [hr]; rfl
    have hri : x.r = 65533 := by show ((Utf8.decode S p).1 : Int) = 65533; omega
    unfold outD nxD skD leafD at hQ
    rw [hr1] at hQ
    have hk := knE_ok x hri
    cases u with
    | true =>
      refine viaE x hx rfl eT_is hk (treesD_ok true true).1 (hby eT (treesD_ok true true).2) (nx := eB x.B ((runS x.B eT).es.getD 0 none)) (sk := eB x.B ((runS x.B eT).es.getD 1 none)) rfl rfl hw hes hB hacc hA hlow hI hit ?_
      rw [hBE]
      exact hQ
    | false =>
      refine viaE x hx rfl eF_is hk (treesD_ok false true).1 (hby eF (treesD_ok false true).2) (nx := eB x.B ((runS x.B eF).es.getD 0 none)) (sk := eB x.B ((runS x.B eF).es.getD 1 none)) rfl rfl hw hes hB hacc hA hlow hI hit ?_
      rw [hBE]
      exact hQ
  · have hr1 : Nat.beq (Utf8.decode S p).1 65533 = false := by
      cases h : Nat.beq (Utf8.decode S p).1 65533 with
      | false => rfl
      | true => exact absurd (by simpa using h) hr
    have hri : x.r ≠ 65533 := by show ((Utf8.decode S p).1 : Int) ≠ 65533; omega
    unfold outD nxD skD leafD at hQ
    rw [hr1] at hQ
    have hk := knD_ok x hri
    cases u with
    | true =>
      refine viaE x hx rfl hT_is hk (treesD_ok true false).1 (hby hT (treesD_ok true false).2) (nx := eB x.B ((runS x.B hT).es.getD 0 none)) (sk := eB x.B ((runS x.B hT).es.getD 1 none)) rfl rfl hw hes hB hacc hA hlow hI hit ?_
      rw [hBE]
      exact hQ
    | false =>
      refine viaE x hx rfl hF_is hk (treesD_ok false false).1 (hby hF (treesD_ok false false).2) (nx := eB x.B ((runS x.B hF).es.getD 0 none)) (sk := eB x.B ((runS x.B hF).es.getD 1 none)) rfl rfl hw hes hB hacc hA hlow hI hit ?_
      rw [hBE]
      exact hQ
end Go.Proofs.YtonmnpmklkbioaaDoor.Sy
/- Decode's loop. -/
namespace Go.Proofs.YtonmnpmklkbioaaDoor.Sy
open Go.RowKit Go.Proofs.YtonmnpmklkbioaaDoorW.PrintWords
set_option linter.unusedVariables false
set_option linter.unusedSimpArgs false
/-- What is written from p on, and whether a quote is left. -/
def loopD (m : Int) (S : ByteArray) : Nat → Nat → Bool → Bool → List UInt8 × Bool
  | 0, _, n, _ => ([], n)
  | f + 1, p, n, s => if p < S.size then (bif s then loopD m S f (p + (Utf8.decode S p).2) n false else (outD m n S p ++ (loopD m S f (p + (Utf8.decode S p).2) (nxD m n S p) (skD m n S p)).1, (loopD m S f (p + (Utf8.decode S p).2) (nxD m n S p) (skD m n S p)).2)) else ([], n)
theorem loopD_le (m : Int) (S : ByteArray) : ∀ f p n s, (loopD m S f p n s).1.length ≤ 160 * f
  | 0, _, _, _ => Nat.le_refl _
  | f + 1, p, n, s => by
    by_cases h : p < S.size
    · cases s with
      | true =>
        have e1 : loopD m S (f + 1) p n true = loopD m S f (p + (Utf8.decode S p).2) n false := by simp only [loopD, if_pos h, cond_true]
        have h2 := loopD_le m S f (p + (Utf8.decode S p).2) n false
        rw [e1]; omega
      | false =>
        have e1 : (loopD m S (f + 1) p n false).1 = outD m n S p ++ (loopD m S f (p + (Utf8.decode S p).2) (nxD m n S p) (skD m n S p)).1 := by simp only [loopD, if_pos h, cond_false]
        have h1 := outD_le m n S p h
        have h2 := loopD_le m S f (p + (Utf8.decode S p).2) (nxD m n S p) (skD m n S p)
        rw [e1, List.length_append]
        omega
    · have e1 : loopD m S (f + 1) p n s = ([], n) := by simp only [loopD, if_neg h]
      rw [e1]; exact Nat.zero_le _
theorem estep (x : Ce) (hx : OkE x) (hfl : x.fl = ⟨false, false⟩) {c : Code} {d : DS Ae Eg} {env : Env Ae} {ks : List Nat} {l : List (Nat × Value)} {out : List UInt8} (his : (comp0 (rulesE ⟨false, false⟩ 553) c env).map (fun D => norm (fun _ => none) (strip1 ks D)) = some d)
    (hnb : (d.run x.B).x ≠ .bad) (hrun : vals x.V ks (d.run x.B).es = l) (hby : x.bytes (d.run x.B).tr = out) {wB : World} (hw : WorldOk wB x.mp x.m) (hes : ErrOk wB) (hB : wB.heap.size ≤ x.b) {acc : List UInt8} (hacc : acc.length ≤ 35184372088832) {ip : Option Nat} {a : Act} {w : World} {Q : Exit → Act → World → Prop}
    (hA : St 553 (env.map fun p => (p.1, p.2.val x.V)) a) (hlow : Below wB.heap.size wB w) (hI : Lib.IsBuffer 71 5 wB.heap.size x.b (Lib.byteCells acc) w) (hit : ∀ p, ip = some p → x.it ≠ x.b ∧ w.heap[x.it]? = some (.stringIter x.S p))
    (hQ : ∀ a' w', St 553 l a' → Below wB.heap.size wB w' → Lib.IsBuffer 71 5 wB.heap.size x.b (Lib.byteCells (acc ++ out)) w' → (∀ p, ip = some p → w'.heap[x.it]? = some (.stringIter x.S p)) → Q (d.run x.B).x.to a' w') : c.wp Tryd.prog Q a w := by
  have hR : Re x wB acc ip [] w := ⟨hlow, by rw [if_neg (by rw [hfl]; simp)]; simpa [Ce.bytes] using hI, hit⟩
  have hS := soundE 553 x hx wB hw hes acc hacc ip (fun h => by rw [hfl] at h; cases h) hB
  rw [hfl] at hS
  refine tree_st hS his hA hR hnb (fun a' w' h1 h2 => ?_)
  rw [hrun] at h1
  have hbuf := h2.buf
  rw [if_neg (by rw [hfl]; simp), hby] at hbuf
  exact hQ a' w' h1 h2.low hbuf (fun p hp => (h2.it p hp).2)
set_option maxRecDepth 100000 in
theorem lp44_is : lp44 = .seq (nth (sp lp44) 0) (.seq (.cond (.tmp 289) .skip (.exit 1)) (.block 2 (.seq r66 (.seq p44 (.seq q44 body44))))) := by kernel_rfl
theorem sk_mem {mp : Addr} {b it : Nat} {S U : ByteArray} {n s : Bool} : ∀ q ∈ ((22, Value.bool n) :: (23, .bool s) :: keptD mp b it S U), q = (22, .bool n) ∨ q = (23, .bool s) ∨ q = (1, .string S) ∨ q = (2, .pointer (some mp)) ∨ q = (10, .string U) ∨ q = (20, .pointer (some ⟨b, 0, none⟩)) ∨ q = (287, .pointer (some ⟨it, 0, none⟩)) := by
  intro q hq
  simpa using hq
theorem loopD_wp {mp : Addr} {m : Int} {b it : Nat} {S U : ByteArray} {wB : World} (hw : WorldOk wB mp m) (hes : ErrOk wB) (hB : wB.heap.size ≤ b) (hS : S.size ≤ 17592186044416) (hU : U.size ≤ 7) (hib : it ≠ b) (hiB : wB.heap.size ≤ it) {Q : Exit → Act → World → Prop} :
    ∀ (f p : Nat) (n s : Bool) (acc : List UInt8) (a : Act) (w : World), S.size ≤ p + f → acc.length + 160 * (S.size - p) ≤ 35184372088832 → St 553 ((22, .bool n) :: (23, .bool s) :: keptD mp b it S U) a → Below wB.heap.size wB w → Lib.IsBuffer 71 5 wB.heap.size b (Lib.byteCells acc) w → w.heap[it]? = some (.stringIter S p) →
      (∀ a' w' s', St 553 ((22, .bool (loopD m S f p n s).2) :: (23, .bool s') :: keptD mp b it S U) a' → Below wB.heap.size wB w' → Lib.IsBuffer 71 5 wB.heap.size b (Lib.byteCells (acc ++ (loopD m S f p n s).1)) w' → Q .normal a' w') → Code.rounds Tryd.prog lp44 (Exit.inBlock 1 Q) (f + 1) a w := by
  intro f
  have hd : ∀ (p : Nat) (n s : Bool) (a : Act), St 553 ((22, .bool n) :: (23, .bool s) :: keptD mp b it S U) a → St 553 ((287, .pointer (some ⟨it, 0, none⟩)) :: [(1, .string S), (2, .pointer (some mp)), (10, .string U), (20, .pointer (some ⟨b, 0, none⟩)), (22, .bool n), (23, .bool s)]) a := by
    intro p n s a h
    refine st_sub h ?_
    intro q hq
    simp only [List.mem_cons, List.not_mem_nil, or_false] at hq ⊢
    rcases hq with rfl | rfl | rfl | rfl | rfl | rfl | rfl <;> simp
  have hend : ∀ (n s : Bool) (v : Value) (a : Act), St 553 ((289, v) :: (287, .pointer (some ⟨it, 0, none⟩)) :: [(1, .string S), (2, .pointer (some mp)), (10, .string U), (20, .pointer (some ⟨b, 0, none⟩)), (22, .bool n), (23, .bool s)]) a → St 553 ((22, .bool n) :: (23, .bool s) :: keptD mp b it S U) a := by
    intro n s v a h
    refine st_sub h ?_
    intro q hq
    rcases sk_mem q hq with rfl | rfl | rfl | rfl | rfl | rfl | rfl <;> simp
  induction f with
  | zero =>
    intro p n s acc a w hf hacc hA hlow hI hit hQ
    show lp44.wp Tryd.prog _ a w
    rw [lp44_is]
    refine wp_seq (d65_wp (S := S) (p := it) (k := p) (hd p n s a hA) (by rfl) hit (fun hk => absurd hk (by omega)) (fun hk a' h' => ?_))
    refine wp_seq (wp_cond_false (st_eval h' List.mem_cons_self) (wp_exit ?_))
    show Exit.inBlock 1 Q (.exit 1) a' w
    simp only [Exit.inBlock, if_true]
    exact hQ a' w s (hend n s _ a' h') hlow (by simpa [loopD] using hI)
  | succ f ih =>
    intro p n s acc a w hf hacc hA hlow hI hit hQ
    show lp44.wp Tryd.prog _ a w
    rw [lp44_is]
    refine wp_seq (d65_wp (S := S) (p := it) (k := p) (hd p n s a hA) (by rfl) hit (fun hk a' h' => ?_) (fun hk a' h' => ?_))
    · refine wp_seq (wp_cond_true (st_eval h' List.mem_cons_self) (wp_skip ?_))
      have hul := outD_le m n S p hk
      have hwd := Lib.width_pos S p
      have hlow1 := Lib.below_iterAt hlow hiB S (p + (Utf8.decode S p).2)
      have hI1 := hI.iterAt hit (p + (Utf8.decode S p).2)
      have hit1 : it ≠ b ∧ (w.iterAt it S (p + (Utf8.decode S p).2)).heap[it]? = some (.stringIter S (p + (Utf8.decode S p).2)) := ⟨hib, Lib.iterAt_heap w it S p _ hit⟩
      generalize w.iterAt it S (p + (Utf8.decode S p).2) = w1 at hlow1 hI1 hit1 ⊢
      refine wp_block (wp_seq (d66_wp (mp := mp) (b := b) (it := it) (k := p) (r := (Utf8.decode S p).1) (S := S) (U := U) (n := n) (s := s) (u := false) (st_sub h' ?_) (fun a2 h2 => ?_)))
      · intro q hq
        simp only [List.mem_cons, List.not_mem_nil, or_false] at hq ⊢
        rcases hq with rfl | rfl | rfl | rfl | rfl | rfl | rfl | rfl <;> simp
      let x : Ce := ⟨mp, m, b, it, ((Utf8.decode S p).1 : Int), noB, noB, U, S, 0, p, n, ⟨false, false⟩⟩
      have hle := decode_le S p
      have hx : OkE x := by
        refine ⟨Nat.zero_le _, Nat.zero_le _, Nat.le_trans hU (by decide), hS, rfl, fun _ => ⟨Int.le_refl _, Int.le_refl _⟩, Nat.le_of_lt hk, ?_⟩
        show -2147483648 ≤ ((Utf8.decode S p).1 : Int) ∧ ((Utf8.decode S p).1 : Int) ≤ 2147483647
        omega
      have hitp : ∀ q, some (p + (Utf8.decode S p).2) = some q → x.it ≠ x.b ∧ w1.heap[x.it]? = some (.stringIter x.S q) := by
        intro q hq; cases hq; exact hit1
      cases s with
      | true =>
        have e1 : loopD m S (f + 1) p n true = loopD m S f (p + (Utf8.decode S p).2) n false := by simp only [loopD, if_pos hk, cond_true]
        rw [e1] at hQ
        refine wp_seq (estep x hx rfl jS_is (l := [(1, .string S), (2, .pointer (some mp)), (10, .string U), (20, .pointer (some ⟨b, 0, none⟩)), (22, .bool n), (23, .bool false), (287, .pointer (some ⟨it, 0, none⟩))]) (out := []) (by intro e; cases e) rfl rfl hw hes hB (acc := acc) (by omega) (ip := some (p + (Utf8.decode S p).2)) (st_sub h2 ?_) hlow1 hI1 hitp (fun a3 w3 h3 hlow3 hI3 hit3 => ?_))
        · intro q hq
          simp only [List.map_cons, List.map_nil, List.mem_cons, List.not_mem_nil, or_false] at hq ⊢
          rcases hq with rfl | rfl | rfl | rfl | rfl | rfl | rfl | rfl | rfl <;> simp [E.val, Ce.V, Ce.str, RE.int, x]
        · rw [List.append_nil] at hI3
          have hnext := ih (p + (Utf8.decode S p).2) n false acc a3 w3 (by omega) (by omega) (st_sub h3 ?_) hlow3 hI3 (hit3 _ rfl) hQ
          · have hx2 : (DS.run x.B jS).x.to = .exit 2 := rfl
            rw [hx2]
            simp only [Exit.then, Exit.inBlock, if_true]
            exact hnext
          · intro q hq
            rcases sk_mem q hq with rfl | rfl | rfl | rfl | rfl | rfl | rfl <;> simp
      | false =>
        have e1 : (loopD m S (f + 1) p n false).1 = outD m n S p ++ (loopD m S f (p + (Utf8.decode S p).2) (nxD m n S p) (skD m n S p)).1 := by simp only [loopD, if_pos hk, cond_false]
        have e2 : (loopD m S (f + 1) p n false).2 = (loopD m S f (p + (Utf8.decode S p).2) (nxD m n S p) (skD m n S p)).2 := by simp only [loopD, if_pos hk, cond_false]
        rw [e1, e2] at hQ
        refine wp_seq (estep x hx rfl jN_is (l := [(1, .string S), (2, .pointer (some mp)), (10, .string U), (20, .pointer (some ⟨b, 0, none⟩)), (22, .bool n), (23, .bool false), (24, .int .i64 (p : Int)), (25, .int .i32 ((Utf8.decode S p).1 : Int)), (287, .pointer (some ⟨it, 0, none⟩))]) (out := []) (by intro e; cases e) rfl rfl hw hes hB (acc := acc) (by omega) (ip := some (p + (Utf8.decode S p).2)) (st_sub h2 ?_) hlow1 hI1 hitp (fun a3 w3 h3 hlow3 hI3 hit3 => ?_))
        · intro q hq
          simp only [List.map_cons, List.map_nil, List.mem_cons, List.not_mem_nil, or_false] at hq ⊢
          rcases hq with rfl | rfl | rfl | rfl | rfl | rfl | rfl | rfl | rfl <;> simp [E.val, Ce.V, Ce.str, RE.int, x]
        rw [List.append_nil] at hI3
        show (Code.seq q44 body44).wp Tryd.prog _ a3 w3
        refine wp_seq (estep x hx rfl jQ_is (l := [(1, .string S), (2, .pointer (some mp)), (10, .string U), (20, .pointer (some ⟨b, 0, none⟩)), (21, .bool n), (22, .bool false), (23, .bool false), (24, .int .i64 (p : Int)), (25, .int .i32 ((Utf8.decode S p).1 : Int)), (287, .pointer (some ⟨it, 0, none⟩))]) (out := []) (by intro e; cases e) rfl rfl hw hes hB (acc := acc) (by omega) (ip := some (p + (Utf8.decode S p).2)) (st_sub h3 ?_) hlow3 hI3 (fun q hq => ⟨hib, hit3 q hq⟩) (fun a4 w4 h4 hlow4 hI4 hit4 => ?_))
        · intro q hq
          simp only [List.map_cons, List.map_nil, List.mem_cons, List.not_mem_nil, or_false] at hq ⊢
          rcases hq with rfl | rfl | rfl | rfl | rfl | rfl | rfl | rfl | rfl <;> simp [E.val, Ce.V, Ce.str, RE.int, x]
        rw [List.append_nil] at hI4
        show body44.wp Tryd.prog _ a4 w4
        refine unitD_wp hw hes hB hS hU hk (u := n) (acc := acc) (by omega) (pn := p + (Utf8.decode S p).2) h4 hlow4 hI4 ⟨hib, hit4 _ rfl⟩ (fun a5 w5 e he h5 hlow5 hI5 hit5 => ?_)
        have hnext := ih (p + (Utf8.decode S p).2) (nxD m n S p) (skD m n S p) (acc ++ outD m n S p) a5 w5 (by omega) (by rw [List.length_append]; omega) h5 hlow5 hI5 hit5 (fun a6 w6 s' h6 hl6 hI6 => hQ a6 w6 s' h6 hl6 (by
          rw [List.append_assoc] at hI6
          exact hI6))
        rcases he with rfl | rfl
        · exact hnext
        · show Exit.inBlock 2 _ (.exit 2) a5 w5
          simp only [Exit.inBlock, if_true]
          exact hnext
    · refine wp_seq (wp_cond_false (st_eval h' List.mem_cons_self) (wp_exit ?_))
      show Exit.inBlock 1 Q (.exit 1) a' w
      simp only [Exit.inBlock, if_true]
      have e1 : loopD m S (f + 1) p n s = ([], n) := by simp only [loopD, if_neg hk]
      rw [e1] at hQ
      exact hQ a' w s (hend n s _ a' h') hlow (by simpa using hI)
end Go.Proofs.YtonmnpmklkbioaaDoor.Sy
/- The contract of Decode. -/
namespace Go.Proofs.YtonmnpmklkbioaaDoor.Sy
open Go.RowKit Go.Proofs.YtonmnpmklkbioaaDoorW.PrintWords
set_option linter.unusedVariables false
set_option linter.unusedSimpArgs false
/-- What Decode writes of what stands between the ends. -/
def midO (m : Int) (T : ByteArray) : List UInt8 := (loopD m T T.size 0 false false).1 ++ (bif (loopD m T T.size 0 false false).2 then quoteL else [])
/-- What Decode gives. -/
def decO (m : Int) (S : ByteArray) : ByteArray :=
  match dfrontO m S with
  | .done t => t
  | .go K P U i => if i = -1 then K else
    ⟨(P.data.toList ++ (K.extract 0 i.toNat).data.toList ++ midO m (K.extract i.toNat K.size) ++ U.data.toList).toArray⟩
theorem dfront_go {m : Int} {S K P U : ByteArray} {i : Int} (h : dfrontO m S = .go K P U i) : K.size ≤ S.size ∧ P.size ≤ 7 ∧ U.size ≤ 7 ∧ (i = -1 ∨ (0 ≤ i ∧ i ≤ K.size)) := by
  unfold dfrontO at h
  cases h1 : m == 1 with
  | true => rw [h1] at h; cases h
  | false =>
    rw [h1, cond_false] at h
    cases h3 : undotO m S with
    | some t => rw [h3] at h; cases h
    | none =>
      rw [h3] at h
      cases h
      have l1 := dleftO_le m S
      have l2 := drightO_le m (dleftO m S).1
      refine ⟨Nat.le_trans l2.1 l1.1, l1.2, l2.2, ?_⟩
      cases (dleftO m S).2.toList == [] && (drightO m (dleftO m S).1).2.toList == [] with
      | false => exact .inr ⟨Int.le_refl _, by rw [cond_false]; omega⟩
      | true =>
        rw [cond_true]
        rcases Lib.idxFunc_range (hitG 68 m) true (drightO m (dleftO m S).1).1 with e | e
        · exact .inl e
        · exact .inr ⟨e.1, by omega⟩
set_option maxRecDepth 1000000 in
theorem c44_is : c44 = .seq (e44 0) (.seq (e44 1) (.seq (e44 2) (.seq (e44 3) (.seq (e44 4) (.seq (e44 5) (.seq (e44 6) (.seq (e44 7) (.seq (e44 8) (.seq (e44 9) (.seq (e44 10) (.seq (e44 11) (.seq (e44 12) (.seq (e44 13) (.seq (e44 14) (.seq (e44 15) (.seq (e44 16) (.seq (e44 17) (.seq (e44 18) (.seq (e44 19) .ret))))))))))))))))))) := by kernel_rfl
set_option maxRecDepth 1000000 in
theorem e16_is : e44 16 = .seq (nth (sp (e44 16)) 0) (.block 1 (.loop lp44)) := by kernel_rfl
def xd (mp : Addr) (m : Int) (b : Nat) (K P U S : ByteArray) (i : Int) (u : Bool) (fl : Fe) : Ce := ⟨mp, m, b, 0, 0, K, P, U, S, i, 0, u, fl⟩
theorem xd_ok {mp : Addr} {m : Int} {b : Nat} {K P U S : ByteArray} {i : Int} (u fr : Bool) (hK : K.size ≤ 17592186044416) (hP : P.size ≤ 7) (hU : U.size ≤ 7) (hS : S.size ≤ 17592186044416) (hi : 0 ≤ i ∧ i ≤ K.size) : OkE (xd mp m b K P U S i u ⟨false, fr⟩) :=
  { mxK := hK
    mxP := Nat.le_trans hP (by decide)
    mxU := Nat.le_trans hU (by decide)
    mxS := hS
    neg := (show false = (i == -1) by symm; simp; omega)
    ix := fun _ => hi
    pos := Nat.zero_le _
    r := (show (-2147483648 : Int) ≤ 0 ∧ (0 : Int) ≤ 2147483647 by decide) }
theorem eseq (x : Ce) (hx : OkE x) (hfl : x.fl = ⟨false, false⟩) {c rest : Code} {d : DS Ae Eg} {env : Env Ae} {ks : List Nat} {l : List (Nat × Value)} {out : List UInt8} (his : (comp0 (rulesE ⟨false, false⟩ 553) c env).map (fun D => norm (fun _ => none) (strip1 ks D)) = some d)
    (hrun : (d.run x.B).x = .normal ∧ vals x.V ks (d.run x.B).es = l) (hby : x.bytes (d.run x.B).tr = out) {wB : World} (hw : WorldOk wB x.mp x.m) (hes : ErrOk wB) (hB : wB.heap.size ≤ x.b) {acc : List UInt8} (hacc : acc.length ≤ 35184372088832) {a : Act} {w : World} {Q : Exit → Act → World → Prop}
    (hA : St 553 (env.map fun p => (p.1, p.2.val x.V)) a) (hlow : Below wB.heap.size wB w) (hI : Lib.IsBuffer 71 5 wB.heap.size x.b (Lib.byteCells acc) w)
    (hQ : ∀ a' w', St 553 l a' → Below wB.heap.size wB w' → Lib.IsBuffer 71 5 wB.heap.size x.b (Lib.byteCells (acc ++ out)) w' → rest.wp Tryd.prog Q a' w') : (Code.seq c rest).wp Tryd.prog Q a w := by
  refine wp_seq (estep x hx hfl his (by rw [hrun.1]; intro e; cases e) hrun.2 hby hw hes hB hacc (ip := none) hA hlow hI (fun p hp => by cases hp) (fun a' w' h1 h2 h3 _ => ?_))
  rw [hrun.1]
  exact hQ a' w' h1 h2 h3
theorem midO_le (m : Int) (T : ByteArray) : (loopD m T T.size 0 false false).1.length ≤ 160 * T.size := loopD_le m T T.size 0 false false
theorem quote_rune : Lib.encodeRune 8219 = quoteL := by decide
theorem dback_wp {mp : Addr} {m : Int} {K P U : ByteArray} {i : Int} (hK : K.size ≤ 17592186044) (hP : P.size ≤ 7) (hU : U.size ≤ 7) (hi : 0 ≤ i ∧ i ≤ K.size) {wB : World} (hw : WorldOk wB mp m) (hes : ErrOk wB) {a : Act} {Q : Exit → Act → World → Prop}
    (hA : St 553 [(1, .string K), (19, .int .i64 i), (2, .pointer (some mp)), (5, .string P), (10, .string U)] a)
    (hQ : ∀ a' w', St 553 [(4, .string ⟨(P.data.toList ++ (K.extract 0 i.toNat).data.toList ++ midO m (K.extract i.toNat K.size) ++ U.data.toList).toArray⟩)] a' → Below wB.heap.size wB w' → Q .ret a' w') :
    (Code.seq (e44 10) (.seq (e44 11) (.seq (e44 12) (.seq (e44 13) (.seq (e44 14) (.seq (e44 15) (.seq (e44 16) (.seq (e44 17) (.seq (e44 18) (.seq (e44 19) .ret)))))))))).wp Tryd.prog Q a wB := by
  have hK2 : K.size ≤ 17592186044416 := by omega
  refine wp_seq (d10_wp hA (by rfl) (fun a1 h1 => ?_))
  have hlow1 : Below wB.heap.size wB (wB.alloc (.cells #[.slice none 0 0, .int .i64 0, .int .i8 0] 71)) := (Below.refl _ wB).alloc (Nat.le_refl _) _
  have hx1 := xd_ok (mp := mp) (m := m) (b := wB.heap.size) (i := i) false true hK2 hP hU (S := noB) (Nat.zero_le _) hi
  have hx2 := xd_ok (mp := mp) (m := m) (b := wB.heap.size) (i := i) false false hK2 hP hU (S := noB) (Nat.zero_le _) hi
  have hlP : P.data.toList.length = P.size := Array.length_toList
  have hlK : (K.extract 0 i.toNat).data.toList.length = (K.extract 0 i.toNat).size := Array.length_toList
  have hlK2 : (K.extract 0 i.toNat).size ≤ K.size := by rw [ByteArray.size_extract]; omega
  have hR1 : Re (xd mp m wB.heap.size K P U noB i false ⟨false, true⟩) wB [] none [] (wB.alloc (.cells #[.slice none 0 0, .int .i64 0, .int .i8 0] 71)) := ⟨hlow1, by rw [if_pos (by rfl)]; exact heap_alloc_new wB _, fun p hp => by cases hp⟩
  refine wp_seq (tree_st (soundE 553 _ hx1 wB hw hes [] (Nat.zero_le _) none (fun _ => ⟨rfl, rfl⟩) (Nat.le_refl _)) j11_is (a := a1) (st_sub h1 (by intro q hq; simp only [List.map_cons, List.map_nil, List.mem_cons, List.not_mem_nil, or_false] at hq ⊢; rcases hq with rfl | rfl | rfl | rfl | rfl | rfl <;> simp [E.val, Ce.V, Ce.str, xd])) hR1 (by intro e; cases e) (fun a2 w2 h2 hR2 => ?_))
  have hI2 : Lib.IsBuffer 71 5 wB.heap.size wB.heap.size (Lib.byteCells []) w2 := hR2.buf
  have hL : St 553 [(1, .string K), (2, .pointer (some mp)), (5, .string P), (10, .string U), (19, .int .i64 i), (20, .pointer (some ⟨wB.heap.size, 0, none⟩))] a2 := h2
  show (Code.seq (e44 12) _).wp Tryd.prog Q a2 w2
  refine eseq (xd mp m wB.heap.size K P U noB i false ⟨false, false⟩) hx2 rfl (d := j12) (out := P.data.toList) (l := [(1, .string K), (2, .pointer (some mp)), (5, .string P), (10, .string U), (19, .int .i64 i), (20, .pointer (some ⟨wB.heap.size, 0, none⟩))]) j12_is ⟨rfl, rfl⟩ (by simp [j12, DS.run, Ce.bytes, Ce.eb, Ce.str, xd]) hw hes (Nat.le_refl _) (acc := []) (Nat.zero_le _) hL hR2.low hI2 (fun a3 w3 h3 hlow3 hI3 => ?_)
  refine eseq (xd mp m wB.heap.size K P U noB i false ⟨false, false⟩) hx2 rfl (d := j13) (out := (K.extract 0 i.toNat).data.toList) (l := [(1, .string K), (2, .pointer (some mp)), (5, .string P), (10, .string U), (19, .int .i64 i), (20, .pointer (some ⟨wB.heap.size, 0, none⟩))]) j13_is ⟨rfl, rfl⟩ (by simp [j13, DS.run, Ce.bytes, Ce.eb, Ce.str, xd]) hw hes (Nat.le_refl _) (acc := P.data.toList) (by omega) h3 hlow3 hI3 (fun a4 w4 h4 hlow4 hI4 => ?_)
  refine eseq (xd mp m wB.heap.size K P U noB i false ⟨false, false⟩) hx2 rfl (d := j14) (out := []) (l := [(1, .string (K.extract i.toNat K.size)), (2, .pointer (some mp)), (10, .string U), (20, .pointer (some ⟨wB.heap.size, 0, none⟩))]) j14_is ⟨rfl, rfl⟩ rfl hw hes (Nat.le_refl _) (acc := P.data.toList ++ (K.extract 0 i.toNat).data.toList) (by rw [List.length_append]; omega) h4 hlow4 hI4 (fun a5 w5 h5 hlow5 hI5 => ?_)
  rw [List.append_nil] at hI5
  obtain ⟨S, hS⟩ : ∃ S, K.extract i.toNat K.size = S := ⟨_, rfl⟩
  have hSs : S.size ≤ K.size := by rw [← hS, ByteArray.size_extract]; omega
  rw [hS] at h5 hQ
  have hx3 := fun u => xd_ok (mp := mp) (m := m) (b := wB.heap.size) (i := 0) u false (K := noB) (Nat.zero_le _) hP hU (S := S) (by omega) (⟨Int.le_refl _, Int.le_refl _⟩ : (0 : Int) ≤ 0 ∧ (0 : Int) ≤ (noB.size : Int))
  refine eseq (xd mp m wB.heap.size noB P U S 0 false ⟨false, false⟩) (hx3 false) rfl (d := j15) (out := []) (l := [(1, .string S), (2, .pointer (some mp)), (10, .string U), (20, .pointer (some ⟨wB.heap.size, 0, none⟩)), (21, .bool false), (22, .bool false), (23, .bool false)]) j15_is ⟨rfl, rfl⟩ rfl hw hes (Nat.le_refl _) (acc := P.data.toList ++ (K.extract 0 i.toNat).data.toList) (by rw [List.length_append]; omega) h5 hlow5 hI5 (fun a6 w6 h6 hlow6 hI6 => ?_)
  rw [List.append_nil] at hI6
  refine wp_seq ?_
  rw [e16_is]
  refine wp_seq (d64_wp h6 (by rfl) (by rfl) (fun a7 h7 => ?_))
  have hsz : wB.heap.size ≤ w6.heap.size := hlow6.size
  refine wp_block (wp_loop_rounds (S.size + 1) (loopD_wp hw hes (Nat.le_refl _) (S := S) (U := U) (it := w6.heap.size) (by omega) hU (Nat.ne_of_gt hI6.lt) hsz S.size 0 false false (P.data.toList ++ (K.extract 0 i.toNat).data.toList) a7 (w6.iter S 0) (by omega) (by rw [List.length_append]; omega) ?_ (hlow6.alloc hsz _) (hI6.alloc _) (World.iter_heap w6 S 0) (fun a8 w8 s' h8 hlow8 hI8 => ?_)))
  · exact st_sub h7 (by intro q hq; simp only [List.mem_cons, List.not_mem_nil, or_false] at hq ⊢; rcases hq with rfl | rfl | rfl | rfl | rfl | rfl | rfl <;> simp)
  · show (Code.seq (e44 17) _).wp Tryd.prog Q a8 w8
    have hll := midO_le m S
    obtain ⟨u, hu⟩ : ∃ u, (loopD m S S.size 0 false false).2 = u := ⟨_, rfl⟩
    unfold midO at hQ
    rw [hu] at h8 hQ
    have hL8 : St 553 [(1, .string S), (2, .pointer (some mp)), (10, .string U), (20, .pointer (some ⟨wB.heap.size, 0, none⟩)), (22, .bool u)] a8 := st_sub h8 (by intro q hq; simp only [List.mem_cons, List.not_mem_nil, or_false] at hq ⊢; rcases hq with rfl | rfl | rfl | rfl | rfl <;> simp)
    refine eseq (xd mp m wB.heap.size noB P U S 0 u ⟨false, false⟩) (hx3 u) rfl (d := j17) (out := bif u then quoteL else []) (l := [(1, .string S), (2, .pointer (some mp)), (10, .string U), (20, .pointer (some ⟨wB.heap.size, 0, none⟩))]) j17_is (by cases u <;> exact ⟨rfl, rfl⟩) (by cases u <;> simp [j17, DS.run, Ce.B, Ce.bytes, Ce.eb, Ce.str, xd, RE.int, quote_rune]) hw hes (Nat.le_refl _) (by rw [List.length_append, List.length_append]; omega) hL8 hlow8 hI8 (fun a9 w9 h9 hlow9 hI9 => ?_)
    have hq3 : (bif u then quoteL else []).length ≤ 3 := by cases u <;> decide
    refine eseq (xd mp m wB.heap.size noB P U S 0 u ⟨false, false⟩) (hx3 u) rfl (d := j18) (out := U.data.toList) (l := [(20, .pointer (some ⟨wB.heap.size, 0, none⟩))]) j18_is ⟨rfl, rfl⟩ (by simp [j18, DS.run, Ce.bytes, Ce.eb, Ce.str, xd]) hw hes (Nat.le_refl _) (by rw [List.length_append, List.length_append, List.length_append]; omega) h9 hlow9 hI9 (fun a10 w10 h10 hlow10 hI10 => ?_)
    rw [List.append_assoc (P.data.toList ++ _)] at hI10
    exact d19_wp h10 hI10 (fun a11 n h11 => hQ a11 _ h11 (below_drewN hlow10 n))
set_option maxRecDepth 1000000 in
theorem calls44 (m : Int) (S : ByteArray) (w : World) (hS : S.size ≤ 17592186044) (hT : Lib.Utf8Tabs (Laid.L_n197_ren.g 3) (Laid.L_n197_ren.g 4) w) (hes : ErrOk w) :
    Calls Tryd.prog 44 #[.int .u64 m, .string S] w fun e w' => e = .returned (.string (decO m S)) ∧ Below w.heap.size w w' := by
  have hb0 : Below w.heap.size w (w.alloc (.cells #[.int .u64 m] 43)) := (Below.refl _ w).alloc (Nat.le_refl _) _
  have hw0 : WorldOk (w.alloc (.cells #[.int .u64 m] 43)) ⟨w.heap.size, 0, none⟩ m :=
    ⟨by rw [Lib.cell_of_heap (heap_alloc_new w _)]; rfl, fun c hc => (hb0.cell (World.block_lt_of_cell? w _ (hT.1 c hc))).trans (hT.1 c hc), fun i hi => ⟨(hb0.cell (World.block_lt_of_cell? w _ (hT.2 i hi).1)).trans (hT.2 i hi).1, (hb0.cell (World.block_lt_of_cell? w _ (hT.2 i hi).2)).trans (hT.2 i hi).2⟩⟩
  have hes0 : ErrOk (w.alloc (.cells #[.int .u64 m] 43)) := hes.below hb0
  have hbz : w.heap.size ≤ (w.alloc (.cells #[.int .u64 m] 43)).heap.size := hb0.size
  refine calls_of_wp (Tryd.func44) (c := c44) (by kernel_rfl) ?_
  have fin : ∀ t a' w', t = decO m S → St 553 [(4, .string t)] a' → Below (w.alloc (.cells #[.int .u64 m] 43)).heap.size (w.alloc (.cells #[.int .u64 m] 43)) w' →
      bodyPost Tryd.prog Tryd.f44 (fun e w' => e = .returned (.string (decO m S)) ∧ Below w.heap.size w w') .ret a' w' := by
    intro t a' w' ht hA hb
    refine ⟨hA.df, .string t, ?_, by rw [ht], hb0.trans (hb.mono hbz)⟩
    have h4 := st_at hA List.mem_cons_self
    rw [results_tmp (t := 4) Tryd.results44]
    simp only [Array.getD_eq_getD_getElem?, h4, Option.getD_some]
  rw [c44_is]
  refine wp_seq (d0_wp (m := m) (S := S) ⟨rfl, by kernel_rfl, fun p hp => ?_⟩ (fun a0 h0 => ?_))
  · simp only [List.mem_cons, List.not_mem_nil, or_false] at hp
    rcases hp with rfl | rfl
    · exact init_at rfl
    · exact init_at rfl
  · show (Code.seq (e44 1) _).wp Tryd.prog _ a0 _
    refine dfront_wp (by omega) hw0 h0 (Below.refl _ _) ?_ ?_
    · intro t ht a' w' hA hb
      exact fin t a' w' (by unfold decO; rw [ht]) hA hb
    · intro K P U i hgo a' w' hA hb
      have hf := dfront_go hgo
      refine d9_wp (i := i) (K := K) (L := [(2, .pointer (some ⟨w.heap.size, 0, none⟩)), (5, .string P), (10, .string U)]) (st_sub hA (by intro q hq; simp only [List.mem_cons, List.not_mem_nil, or_false] at hq ⊢; rcases hq with rfl | rfl | rfl | rfl | rfl <;> simp)) (by rfl) ?_ ?_
      · intro hi a2 h2
        exact fin K a2 w' (by unfold decO; rw [hgo]; simp only [if_pos hi]) h2 hb
      · intro hi a2 h2
        refine dback_wp (by omega) hf.2.1 hf.2.2.1 (hf.2.2.2.resolve_left hi) (hw0.below hb) (hes0.below hb) h2 (fun a3 w3 h3 hb3 => ?_)
        exact fin _ a3 w3 (by unfold decO; rw [hgo]; simp only [if_neg hi]) h3 (hb.trans (hb3.mono hb.size))
end Go.Proofs.YtonmnpmklkbioaaDoor.Sy
