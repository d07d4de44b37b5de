/- A call of a function value that is known; the contract of the function within FnRangesShift. -/
import Derived.Test.YtmkhkkfliecfdaaPUx5
namespace Go.Proofs.Ytmkhkkfliecfdaa.Given
open Go.RowKit Go.Proofs.YtmkhkkfliecfdaaW.PrintWords Go.Proofs.YtmkhkkfliecfdaaW.PrintLast Go.Proofs.Ytmkhkkfliecfdaa.PT
set_option linter.unusedVariables false
set_option linter.unusedSimpArgs false

section
variable {P : Program} {ops : Array Oper} {Q : Exit → Act → World → Prop}
theorem goesD_ {oi : Oper} {N : Option Tmp} {a : Act} {w : World} {K : Act → World → Prop} {f : FuncId} {fn : Func} {ops_ : Array Operand} {ts : Array TypeId} {p : Tmp} {u : Value} (hf : P.funcs[f]? = some fn) (hname : (fn.name == "runtime.NumGoroutine") = false) (hb : fn.body.isSome = true) (args : Array Value)
    (hw : Region.wanted oi (yielded ops a.tmps) = true) (hN : oi.dst = N) (hop : oi.op = .call { callee := .value (.tmp p), args := ops_, argTypes := ts }) (hp : a.tmps.getD p undef = .func (.func f) #[] #[u]) (hargs : ops_.map a.eval ++ #[u] = args)
    (h : Calls P f args w fun e w' => ∃ v, e = .returned v ∧ K (a.put N v) w') : if Region.wanted oi (yielded ops a.tmps) = true then Oper.wp P oi a w K Q else K (a.put N undef) w := by
  refine call_ f args hw hN ?_ h
  have he := enters_ hf hname hb args w
  have hp' : a.eval (.tmp p) = .func (.func f) #[] #[u] := hp
  unfold execOp
  simp [hop, resolve, hp', Deferred.ofValue, invoke, hargs, he]
theorem goesDL_ {rest : List Oper} {oi : Oper} {a : Act} {w : World} (N : Option Tmp) (hd : oi.dst = N) (hg : oi.guard = none) {f : FuncId} {fn : Func} {ops_ : Array Operand} {ts : Array TypeId} {p : Tmp} {u : Value} (hf : P.funcs[f]? = some fn) (hname : (fn.name == "runtime.NumGoroutine") = false) (hb : fn.body.isSome = true) (args : Array Value)
    (hop : oi.op = .call { callee := .value (.tmp p), args := ops_, argTypes := ts }) (hp : a.tmps.getD p undef = .func (.func f) #[] #[u]) (hargs : ops_.map a.eval ++ #[u] = args)
    (h : Calls P f args w fun e w' => ∃ v, e = .returned v ∧ wpList P ops Q rest (a.put N v) w') : wpList P ops Q (oi :: rest) a w := by
  refine wpList_plain hg fun K hK => ?_
  have he := enters_ hf hname hb args w
  have hp' : a.eval (.tmp p) = .func (.func f) #[] #[u] := hp
  have hrun : (execOp a.eval oi).run P w = .ok (.enter f args) w := by
    unfold execOp
    simp [hop, resolve, hp', Deferred.ofValue, invoke, hargs, he]
  unfold Oper.wp
  rw [hrun, Oper.upon_enter]
  refine h.mono fun e w'' hh => ?_
  obtain ⟨v, rfl, hk⟩ := hh
  subst hd
  exact hK _ _ hk
end
def rangesShift1.f (a0_0 a0_1 a1 : Int) : Option (Int × Int) := some (wrap64 (a0_0 + a1), a0_1)
set_option maxRecDepth 100000 in
set_option maxHeartbeats 1000000 in
theorem rangesShift1.calls (g : Nat) (a0_0 a0_1 a1 : Int) (r1 r2 : Int) (w : World) (hc : w.cell? ⟨g, 0, none⟩ = some (.int .i64 a1)) (h : rangesShift1.f a0_0 a0_1 a1 = some (r1, r2)) :
    Calls Try.prog 16 #[.agg #[.int .i64 a0_0, .int .i64 a0_1], .pointer (some ⟨g, 0, none⟩)] w fun e w' => e = .returned (.agg #[.int .i64 r1, .int .i64 r2]) ∧ Below w.heap.size w w' := by
  obtain ⟨rfl, rfl⟩ : wrap64 (a0_0 + a1) = r1 ∧ a0_1 = r2 := by simpa [rangesShift1.f] using h
  have hlt := World.block_lt_of_cell? _ _ hc
  have hlt' : g < w.heap.size := hlt
  have e1 : ¬ g = w.heap.size := by omega
  have e2 : ¬ g = w.heap.size + 1 := by omega
  go_enter Try.func16, Try.ntmps16
  go_wp2
  refine bodyPost_ret (v := .agg #[.int .i64 (wrap64 (a0_0 + a1)), .int .i64 a0_1]) (by simp [results, Try.results16, go_sem]) rfl ⟨rfl, ?_⟩
  exact ((Below.refl _ _).alloc (Nat.le_refl _) _).alloc (by simp) _
end Go.Proofs.Ytmkhkkfliecfdaa.Given
